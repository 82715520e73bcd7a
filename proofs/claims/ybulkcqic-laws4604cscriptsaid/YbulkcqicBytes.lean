/-
  binary.LittleEndian's Uint16 and PutUint16.
-/
import Derived.Test.YbulkcqicLeaf
import Derived.Laws.BitsAllLaws
namespace Go.Proofs.Ybulkcqic
open Go.RowKit

/-- Two worlds that differ in the count of draws at most. -/
def Twin (w' w : World) : Prop := w'.heap = w.heap ∧ w'.os = w.os ∧ w'.output = w.output ∧ w'.tape = w.tape
theorem Twin.refl (w : World) : Twin w w := ⟨rfl, rfl, rfl, rfl⟩
theorem Twin.drewN {w' w : World} (h : Twin w' w) (n : Nat) : Twin (w'.drewN n) w := h

theorem orU16 (lo hi : Nat) (hl : lo < 256) (hh : hi < 256) : bits .or .u16 (lo : Int) ((hi * 256 : Nat) : Int) = ((lo + 256 * hi : Nat) : Int) := by
  rw [u16_or_nat lo (hi * 256) (by omega) (by omega)]
  have := nat_join 8 (hi * 256) lo (by omega) (by omega)
  rw [Nat.or_comm, this]
  congr 1
  omega

theorem u16_any (b o n c lo hi : Nat) (w : World) (hn : 2 ≤ n) (hl : lo < 256) (hh : hi < 256) (h0 : w.cell? ⟨b, o, none⟩ = some (.int .u8 (lo : Int))) (h1 : w.cell? ⟨b, o + 1, none⟩ = some (.int .u8 (hi : Int))) :
    Calls Yba.prog 19 #[.agg #[], .slice (some ⟨b, o, none⟩) n c] w fun e w' => e = .returned (.int .u16 ((lo + 256 * hi : Nat) : Int)) ∧ Twin w' (w.alloc (.cells #[] 71)) := by
  have i0 : (0 : Int) < (n : Int) := by omega
  have i1 : (1 : Int) < (n : Int) := by omega
  have e0 : (w.alloc (.cells #[] 71)).cell? ⟨b, o, none⟩ = some (.int .u8 (lo : Int)) := (World.cell?_of_block (Below.heap_alloc w _ _ (World.block_lt_of_cell? w _ h0))).trans h0
  have e1 : (w.alloc (.cells #[] 71)).cell? ⟨b, o + 1, none⟩ = some (.int .u8 (hi : Int)) := (World.cell?_of_block (Below.heap_alloc w _ _ (World.block_lt_of_cell? w _ h1))).trans h1
  have hor := orU16 lo hi hl hh
  clear h0 h1
  go_enter Yba.func19, Yba.ntmps19
  go_upto_region 1 with fail
  generalize hw1 : w.alloc (.cells #[] 71) = w1 at *
  have HW : Hid (w.alloc (.cells #[] 71) = w1) := hw1
  clear hw1
  go_wp2_with fail
  go_quiet (fail)
  go_wp2
  go_ret
  refine ⟨?_, by rw [HW.out]; exact ⟨rfl, rfl, rfl, rfl⟩⟩
  have e : ((hi * 256 : Nat) : Int) = (hi : Int) * 256 := by simp
  rw [e] at hor
  rw [← hor]
  rfl

theorem put16_any (b o n c v : Nat) (w : World) (x0 x1 : Int) (hn : 2 ≤ n) (hv : v < 65536) (h0 : Has w ⟨b, o, none⟩ (.int .u8 x0)) (h1 : Has w ⟨b, o + 1, none⟩ (.int .u8 x1)) :
    Calls Yba.prog 26 #[.agg #[], .slice (some ⟨b, o, none⟩) n c, .int .u16 (v : Int)] w fun e w' => e = .returned (.tuple #[]) ∧ w' = ((w.alloc (.cells #[] 71)).setCell ⟨b, o, none⟩ (.int .u8 ((v % 256 : Nat) : Int))).setCell ⟨b, o + 1, none⟩ (.int .u8 ((v / 256 : Nat) : Int)) := by
  have i0 : (0 : Int) < (n : Int) := by omega
  have i1 : (1 : Int) < (n : Int) := by omega
  obtain ⟨e0, g0⟩ := h0.alloc (.cells #[] 71)
  obtain ⟨e1, g1⟩ := h1.alloc (.cells #[] 71)
  clear h0 h1
  go_enter Yba.func26, Yba.ntmps26
  go_upto_region 1 with fail
  generalize hw1 : w.alloc (.cells #[] 71) = w1 at *
  have HW : Hid (w.alloc (.cells #[] 71) = w1) := hw1
  clear hw1
  go_wp2
  go_end0
  exact ⟨rfl, by rw [HW.out]; simp⟩

end Go.Proofs.Ybulkcqic
