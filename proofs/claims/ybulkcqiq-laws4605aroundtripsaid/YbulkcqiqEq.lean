import Derived.Test.YbulkcqiqApp
import Derived.Laws.CopyOwn
import Derived.Deep.OwnRows
import Derived.Deep.QuietTactic
import Derived.BigQuiet
import Derived.Laws.BitsAllLaws
namespace Go.Proofs.Ybulkcqiq
open Go.RowKit

/-- The slice at a, of n elements, holds the cells xs. -/
def Reads (w : World) (a : Option Addr) (n : Nat) (xs : List Value) : Prop := 0 < n → ∃ b off, a = some ⟨b, off, none⟩ ∧ ∀ j, j < n → w.cell? ⟨b, off + j, none⟩ = xs[j]?
/-- Cells of bytes. -/
def Bytes (n : Nat) (xs : List Value) : Prop := ∀ j, j < n → ∃ z : Int, xs[j]? = some (.int .u8 z)

theorem Reads.below {w w' : World} {a : Option Addr} {n : Nat} {xs : List Value} (h : Reads w a n xs) (hb : Bytes n xs) {B : Nat} (hB : w.heap.size ≤ B) (hw : Below B w w') : Reads w' a n xs := by
  intro h0
  obtain ⟨b, off, rfl, hc⟩ := h h0
  refine ⟨b, off, rfl, fun j hj => ?_⟩
  obtain ⟨z, hz⟩ := hb j hj
  have := (hc j hj).trans hz
  exact (hw.cell (Nat.lt_of_lt_of_le (World.block_lt_of_cell? w _ this) hB)).trans (hc j hj)

theorem Reads.drewN {w : World} {a : Option Addr} {n : Nat} {xs : List Value} (h : Reads w a n xs) (d : Nat) : Reads (w.drewN d) a n xs := h

theorem reads_own {w : World} {B : Nat} {v : Value} {n : Nat} {xs : List Value} (h : w.ownsRow B 5 1 v n xs) : ∃ a c, v = .slice a n c ∧ Reads w a n xs ∧ xs.length = n ∧ (∀ g, v.ownBlock = some g → B ≤ g ∧ g < w.heap.size) ∧ n ≤ c := by
  have hlt := h.lt
  have hl := h.1
  rcases h.2 with ⟨rfl, rfl⟩ | ⟨g, cap, cur, rfl, hg, hh, hc, _⟩
  · exact ⟨none, 0, rfl, fun h0 => absurd h0 (by omega), by simpa using hl, hlt, by omega⟩
  · refine ⟨_, _, rfl, fun _ => ⟨g, 0, rfl, fun j hj => ?_⟩, by omega, hlt, hc⟩
    rw [Nat.zero_add]
    exact h.cellAt j (by omega)

set_option maxRecDepth 100000 in
set_option maxHeartbeats 400000 in
theorem eq_true (a b : Option Addr) (n ca cb : Nat) (xs : List Value) (w : World) (hn : n ≤ 100000000) (hx : Bytes n xs) (ha : Reads w a n xs) (hb : Reads w b n xs) :
    Calls Yba.prog 8 #[.slice a n ca, .slice b n cb] w fun e w' => e = .returned (.bool true) ∧ ∃ d, w' = w.drewN d := by
  have hnn : ((n : Int) != (n : Int)) = false := by simp
  go_enter Yba.func8, Yba.ntmps8
  go_wp2
  go_loopg [5] n (fun g i wr => ∃ k : Nat, k + g = n ∧ i = .int .i64 k ∧ ∃ d, wr = w.drewN d)
  case atStart => exact ⟨0, by omega, rfl, 0, rfl⟩
  case round =>
    obtain ⟨k, hk, rfl, d, rfl⟩ := hrel
    have HK : Hid (k + gk = n) := hk
    have hkn : k ≤ n := by omega
    clear hk
    by_cases hlt : k < n
    · obtain ⟨ba, oa, rfl, hca⟩ := ha (by omega)
      obtain ⟨bb, ob, rfl, hcb⟩ := hb (by omega)
      obtain ⟨z, hz⟩ := hx k hlt
      have xa : w.cell? ⟨ba, oa + k, none⟩ = some (.int .u8 z) := (hca k hlt).trans hz
      have xb : w.cell? ⟨bb, ob + k, none⟩ = some (.int .u8 z) := (hcb k hlt).trans hz
      have t0 : (z != z) = false := by simp
      have i0 : (0 : Int) ≤ (k : Int) := by omega
      have i1 : (k : Int) < (n : Int) := by omega
      clear hca hcb hz hx ha hb
      go_wp2_with fail
      go_quiet (fail)
      go_wp2
      go_roundg (gk - 1)
      case measure => have := HK.out; omega
      case rel => exact ⟨k + 1, by have := HK.out; omega, by go_num, _, rfl⟩
    · go_wp2
      go_ret
      exact ⟨rfl, d, rfl⟩

theorem and127 (c : Nat) (hc : c < 256) : bits .and .u8 (c : Int) 127 = ((c % 128 : Nat) : Int) := by
  have h := u8_and_nat c 127 hc (by omega)
  have e : c &&& 127 = c % 128 := Nat.and_two_pow_sub_one_eq_mod c 7
  rw [e] at h
  exact h
theorem wrapU (x : Nat) (h : x < 100000) : IntKind.u64.wrap (x : Int) = x := by rw [IntKind.wrap_u64]; omega
theorem or0 (x : Nat) (h : x < 100000) : bits .or .u64 0 (x : Int) = x := by
  have := u64_or_nat 0 x (by omega) (by omega)
  simpa using this
theorem orJoin (v : Nat) (h : v < 16384) : bits .or .u64 ((v % 128 : Nat) : Int) ((v / 128 * 128 : Nat) : Int) = v := by
  have h1 := u64_or_nat (v % 128) (v / 128 * 128) (by omega) (by omega)
  have h2 : v / 128 * 128 + v % 128 = v / 128 * 128 ||| v % 128 := by
    have := Nat.two_pow_add_eq_or_of_lt (i := 7) (b := v % 128) (by omega) (v / 128)
    simpa [Nat.mul_comm] using this
  rw [h1, Nat.or_comm, ← h2]
  omega

set_option maxRecDepth 100000 in
set_option maxHeartbeats 400000 in
theorem read_uv (a : Option Addr) (n c : Nat) (xs : List Value) (pos v : Nat) (w : World) (hn : n ≤ 100000000) (ha : Reads w a n xs) (hv : v < 16384)
    (hp : pos + (uvC v).length ≤ n) (hx : ∀ j, j < (uvC v).length → xs[pos + j]? = (uvC v)[j]?) :
    Calls Yba.prog 9 #[.slice a n c, .int .i64 pos] w fun e w' => e = .returned (.tuple #[.int .u64 v, .int .i64 ((pos + (uvC v).length : Nat) : Int), .bool true]) ∧ w' = w := by
  by_cases h : v < 128
  · have e : uvC v = [.int .u8 v] := if_pos h
    rw [e] at hp hx ⊢
    simp at hp
    obtain ⟨b, off, rfl, hc⟩ := ha (by omega)
    have x0 : w.cell? ⟨b, off + pos, none⟩ = some (.int .u8 v) := by rw [hc pos (by omega)]; simpa using hx 0 (by simp)
    have b1 : bits .and .u8 (v : Int) 127 = v := by rw [and127 v (by omega)]; omega
    have b2 := wrapU v (by omega)
    have b3 := or0 v (by omega)
    clear hc hx ha e
    go_enter Yba.func9, Yba.ntmps9
    go_wp2_with fail
    refine wp_loop_rounds 1 ?_
    rw [rounds_succ]
    go_wp2
    go_ret3
    exact ⟨by simp, rfl⟩
  · have e : uvC v = [.int .u8 ((v % 128 + 128 : Nat) : Int), .int .u8 ((v / 128 : Nat) : Int)] := if_neg h
    rw [e] at hp hx ⊢
    simp at hp
    obtain ⟨b, off, rfl, hc⟩ := ha (by omega)
    have x0 : w.cell? ⟨b, off + pos, none⟩ = some (.int .u8 ((v % 128 + 128 : Nat) : Int)) := by rw [hc pos (by omega)]; simpa using hx 0 (by simp)
    have x1 : w.cell? ⟨b, off + (pos + 1), none⟩ = some (.int .u8 ((v / 128 : Nat) : Int)) := by rw [hc (pos + 1) (by omega)]; simpa using hx 1 (by simp)
    have b1 : bits .and .u8 ((v : Int) % 128 + 128) 127 = (v : Int) % 128 := by
      have := and127 (v % 128 + 128) (by omega)
      have e1 : ((v % 128 + 128 : Nat) : Int) = (v : Int) % 128 + 128 := by omega
      rw [e1] at this
      omega
    have b2 : IntKind.u64.wrap ((v : Int) % 128) = (v : Int) % 128 := by have := wrapU (v % 128) (by omega); simpa using this
    have b3 : bits .or .u64 0 ((v : Int) % 128) = (v : Int) % 128 := by have := or0 (v % 128) (by omega); simpa using this
    have b4 : bits .and .u8 ((v : Int) / 128) 127 = (v : Int) / 128 := by
      have := and127 (v / 128) (by omega)
      have e1 : ((v / 128 : Nat) : Int) = (v : Int) / 128 := by omega
      rw [e1] at this
      omega
    have b6 : bits .or .u64 ((v : Int) % 128) ((v : Int) / 128 * 128) = v := by have := orJoin v hv; simpa using this
    have b5 : IntKind.u64.wrap ((v : Int) / 128) = (v : Int) / 128 := by have := wrapU (v / 128) (by omega); simpa using this
    clear hc hx ha e
    go_enter Yba.func9, Yba.ntmps9
    go_wp2_with fail
    refine wp_loop_rounds 2 ?_
    rw [rounds_succ]
    go_wp2
    rw [rounds_succ]
    go_wp2
    go_ret3
    have e3 : ((pos : Int) + 1 + 1) = ((pos + 2 : Nat) : Int) := by omega
    refine ⟨?_, rfl⟩
    rw [← e3]
    rfl

theorem run_eql_slice_nil22 (w : World) (a : Option Addr) (n c : Nat) : (binOp .eql 22 (.slice a n c) (.slice none 0 0)).run Yba.prog w = .ok (.bool a.isNone) w :=
  Lib.run_eql_slice_nil w 22 5 a n c 0 0 Yba.underlying22

/-- 'copy(c, b)' into the block that 'make' has just laid. -/
theorem copy_run (w : World) (n : Nat) (zs : List Value) (x : Addr) (cap : Nat) (hz : zs.length = n) (hb : Bytes n zs) (hx : ∀ j u, zs[j]? = some u → w.cell? (x.add j) = some u) :
    ∀ ty, (Builtin.copy_ #[22, 22] ty #[.slice (some ⟨w.heap.size, 0, none⟩) n n, .slice (some x) n cap]).run Yba.prog (w.alloc (.cells (madeCells #[.int .u8 0] n) 5)) = .ok (goInt n) (w.alloc (.cells zs.toArray 5)) := by
  intro ty
  have hsz : (Yba.prog.info? 5).map (·.size) = some 1 := by kernel_rfl
  have hr := run_copy_row (P := Yba.prog) (w.alloc (.cells (madeCells #[.int .u8 0] n) 5)) 22 22 ty 5 w.heap.size 0 n n x n cap (madeCells #[.int .u8 0] n) 5 zs Yba.underlying22 hsz (heap_alloc_new w _)
    (by simp [hz]) (fun j v hv => ?_) (by simp [madeCells, hz]) (fun u hu => ?_)
  · rw [hr]
    have hd : (madeCells #[Value.int .u8 0] n).toList.drop (0 + n) = [] := by simp [madeCells]
    rw [hz, hd, List.take_zero, List.nil_append, List.append_nil]
    congr 1
    have e : ∀ (a b : World), a.heap = b.heap → a.tape = b.tape → a.drawn = b.drawn → a.os = b.os → a.output = b.output → a = b := fun a b h1 h2 h3 h4 h5 => by
      cases a; cases b; simp_all
    refine e _ _ ?_ rfl rfl rfl rfl
    apply Array.ext_getElem?
    intro i
    by_cases hi : i = w.heap.size
    · subst hi
      rw [setRow_heap _ _ _ _ _ _ (heap_alloc_new w _), heap_alloc_new w _]
    · rw [setRow_other _ _ _ _ (by omega)]
      show (w.heap.push _)[i]? = (w.heap.push _)[i]?
      rw [Array.getElem?_push, Array.getElem?_push, if_neg hi, if_neg hi]
  · have hc := hx j v hv
    rw [← hc]
    exact ((Below.refl _ w).alloc (Nat.le_refl _) _).cell (World.block_lt_of_cell? w _ hc)
  · obtain ⟨j, hj, rfl⟩ := List.mem_iff_getElem.1 hu
    obtain ⟨z, hz'⟩ := hb j (by omega)
    rw [List.getElem?_eq_getElem hj] at hz'
    rw [Option.some.inj hz']; rfl

set_option maxRecDepth 100000 in
set_option maxHeartbeats 400000 in
/-- The copy: nil of nil; else a slice in new memory, its capacity its length. -/
theorem copy_any (ao : Option Addr) (n cap : Nat) (zs : List Value) (w : World) (hn : n ≤ 1024) (hz : zs.length = n) (hb : Bytes n zs) (hnone : ao = none → n = 0 ∧ cap = 0) (hx : ∀ x, ao = some x → ∀ j u, zs[j]? = some u → w.cell? (x.add j) = some u) :
    Calls Yba.prog 5 #[.slice ao n cap] w fun e w' => ∃ a', e = .returned (.slice a' n n) ∧ (a' = none → n = 0) ∧ (∀ b, a' = some b → b = ⟨w.heap.size, 0, none⟩ ∧ w'.heap[w.heap.size]? = some (.cells zs.toArray 5 (0, 0))) ∧ Below w.heap.size w w' := by
  have hnil := fun (w : World) => run_eql_slice_nil22 w ao n cap
  cases ao with
  | none =>
    obtain ⟨rfl, rfl⟩ := hnone rfl
    go_enter Yba.func5, Yba.ntmps5
    go_wp2
    go_ret
    exact ⟨none, rfl, (fun b hb => by simp at hb), Below.refl _ _⟩
  | some x =>
    have hcp := copy_run w n zs x cap hz hb (hx x rfl)
    have hmk := run_make_row' (P := Yba.prog) 22 5 (.int .u8 0) 1 Yba.underlying22 Yba.info5 rfl .i64 .i64 n (by omega) (by omega)
    clear hb hx
    go_enter Yba.func5, Yba.ntmps5
    go_wp2
    go_ret
    exact ⟨_, rfl, fun h => (by cases h), fun b hb => ⟨(Option.some.inj hb).symm, heap_alloc_new w _⟩, (Below.refl _ _).alloc (Nat.le_refl _) _⟩

end Go.Proofs.Ybulkcqiq
