/-
  The walks of errorAt and readFields.
-/
import Derived.Test.YbulkcqkgFmtClo
import Derived.Deep.RegionWith
namespace Go.Proofs.YbulkcqkgFmt
open Go.RowKit

theorem heap_alloc_at {w : World} {k : Nat} {o x : Obj} (h : w.heap[k]? = some x) : (w.alloc o).heap[k]? = some x := by
  have hlt : k < w.heap.size := by
    rcases Nat.lt_or_ge k w.heap.size with h' | h'
    · exact h'
    · simp [Array.getElem?_eq_none h'] at h
  show (w.heap.push o)[k]? = _
  simp only [Array.getElem?_push, Nat.ne_of_lt hlt, if_false]
  exact h
theorem heap_alloc_own (w : World) (o : Obj) : (w.alloc o).heap[w.heap.size]? = some o := by
  show (w.heap.push o)[w.heap.size]? = _
  simp
theorem cell_alloc_own (w : World) (cs : Array Value) (T : TypeId) (i : Nat) : (w.alloc (.cells cs T)).cell? ⟨w.heap.size, i, none⟩ = cs[i]? := by
  simp only [World.cell?, heap_alloc_own]
  rfl
theorem lt_of_heap {w : World} {k : Nat} {x : Obj} (h : w.heap[k]? = some x) : k < w.heap.size := by
  rcases Nat.lt_or_ge k w.heap.size with h' | h'
  · exact h'
  · simp [Array.getElem?_eq_none h'] at h
theorem cell_alloc_at {w : World} {a : Addr} {v : Value} (o : Obj) (h : w.cell? a = some v) : (w.alloc o).cell? a = some v := by
  rw [← h]; exact World.cell?_of_block (Below.heap_alloc w o a.block (World.block_lt_of_cell? w _ h))

theorem errorAt_any (tb : Nat) (nm t : ByteArray) (tc : Array Value) (n : Int) (E : TypeId) (a : Addr) (w : World) (hE : E = 39 ∨ E = 50)
    (ht : w.heap[tb]? = some (.cells tc 29 (0, 0))) (h0 : tc[0]? = some (.string nm)) (hc : w.cell? a = some (.string t)) :
    Calls Ybaf.prog 9 #[.pointer (some ⟨tb, 0, none⟩), .int .i64 n, .iface E (.pointer (some a))] w fun e w' => e = .returned (.iface 50 (.pointer (some ⟨w.heap.size + 1, 0, none⟩))) ∧
      ∃ s, w' = ((w.alloc (.cells #[.iface 9 (.string nm), .iface 3 (.int .i64 n), .iface E (.pointer (some a))] 20)).alloc (.cells #[.string s, .iface E (.pointer (some a))] 91)).drew := by
  have k0 : w.cell? ⟨tb, 0, none⟩ = some (.string nm) := by simp [World.cell?, ht, h0]
  have hc' := cell_alloc_at (.cells #[.iface 9 (.string nm), .iface 3 (.int .i64 n), .iface E (.pointer (some a))] 20) hc
  have hv : (w.alloc (.cells #[.iface 9 (.string nm), .iface 3 (.int .i64 n), .iface E (.pointer (some a))] 20)).heap[w.heap.size]? = some (.cells #[.iface 9 (.string nm), .iface 3 (.int .i64 n), .iface E (.pointer (some a))] 20 (0, 0)) := heap_alloc_own w _
  go_enter Ybaf.func9, Ybaf.ntmps9
  go_wp2_with fail
  refine (errorf_three nm t n E a _ _ hE hv hc').mono ?_
  rintro e w' ⟨rfl, s, rfl⟩
  go_wp2
  go_ret
  exact ⟨by simp, s, rfl⟩

/-- The table's cells. -/
abbrev tab (nm : ByteArray) (h : Value) (mb : Nat) (l : Int) : Array Value := #[.string nm, .pointer none, .int .i64 0, h, .map (some mb), .nilFunc, .int .i64 0, .int .i64 l]

set_option maxHeartbeats 2000000 in
/-- A line of bytes that are no text: two links, at whose end the sentinel. -/
theorem read_bad (tb : Nat) (nm x t : ByteArray) (hb ho hn hc mb : Nat) (l line nt : Int) (q : Nat) (a : Addr) (fv sv : Value) (w : World)
    (hg : w.cell? ⟨0, 0, none⟩ = some (.iface 39 (.pointer (some a))))
    (ht : w.heap[tb]? = some (.cells (tab nm (.slice (some ⟨hb, ho, none⟩) hn hc) mb l) 29 (0, 0)))
    (hq : nt = q) (hqn : q < hn) (hx : w.cell? ⟨hb, ho + q, none⟩ = some (.string x)) (hca : w.cell? a = some (.string t)) :
    Calls Ybaf.prog 6 #[.pointer (some ⟨tb, 0, none⟩), .agg #[.int .i64 line, .int .i64 nt, .nilIface], sv, fv] w fun e w' =>
      Below w.heap.size w w' ∧ ∃ p r, e = .returned (.iface 50 (.pointer (some ⟨p, 0, none⟩))) ∧ w'.cell? ⟨p, 1, none⟩ = some (.iface 50 (.pointer (some ⟨r, 0, none⟩))) ∧ w'.cell? ⟨r, 1, none⟩ = some (.iface 39 (.pointer (some a))) := by
  subst hq
  have tq : decide ((q : Int) ≥ 0) = true := by simp
  go_enter Ybaf.func6, Ybaf.ntmps6
  go_upto_region 3 with fail
  have hbel : Below w.heap.size w (w.alloc (.cells #[.int .i64 line, .int .i64 (q : Int), .nilIface] 36)) := (Below.refl _ _).alloc (Nat.le_refl _) _
  have hln : (w.alloc (.cells #[.int .i64 line, .int .i64 (q : Int), .nilIface] 36)).heap[w.heap.size]? = some (.cells #[.int .i64 line, .int .i64 (q : Int), .nilIface] 36 (0, 0)) := heap_alloc_own w _
  have ht1 := heap_alloc_at (o := .cells #[.int .i64 line, .int .i64 (q : Int), .nilIface] 36) ht
  have hg1 := cell_alloc_at (.cells #[.int .i64 line, .int .i64 (q : Int), .nilIface] 36) hg
  have hx1 := cell_alloc_at (.cells #[.int .i64 line, .int .i64 (q : Int), .nilIface] 36) hx
  have hca1 := cell_alloc_at (.cells #[.int .i64 line, .int .i64 (q : Int), .nilIface] 36) hca
  generalize hw1 : w.alloc (.cells #[.int .i64 line, .int .i64 (q : Int), .nilIface] 36) = w1 at *
  have c1 : w1.cell? ⟨w.heap.size, 1, none⟩ = some (.int .i64 (q : Int)) := by simp [World.cell?, hln]
  have c2 : w1.cell? ⟨tb, 3, none⟩ = some (.slice (some ⟨hb, ho, none⟩) hn hc) := by simp [World.cell?, ht1]
  have c3 : w1.cell? ⟨0, 0, none⟩ = some (.iface 39 (.pointer (some a))) := hg1
  have i0 : (0 : Int) ≤ (q : Int) := by omega
  have i1 : (q : Int) < (hn : Int) := by omega
  have hv : Hid (∀ X : World, X.heap = (w1.alloc (.cells #[.iface 9 (.string x), .iface 39 (.pointer (some a))] 20)).heap → X.heap[w1.heap.size]? = some (.cells #[.iface 9 (.string x), .iface 39 (.pointer (some a))] 20 (0, 0))) := fun X hX => by rw [hX]; exact heap_alloc_own w1 _
  have hca2 : Hid (∀ X : World, X.heap = (w1.alloc (.cells #[.iface 9 (.string x), .iface 39 (.pointer (some a))] 20)).heap → X.cell? a = some (.string t)) := fun X hX => (World.cell?_of_block (by rw [hX])).trans (cell_alloc_at _ hca1)
  have hsz1 : w1.heap.size = w.heap.size + 1 := by rw [← hw1]; simp
  have hrl : Hid (∀ (X : World) s, X.Twin ((w1.alloc (.cells #[.iface 9 (.string x), .iface 39 (.pointer (some a))] 20)).alloc (.cells #[.string s, .iface 39 (.pointer (some a))] 91)) →
      Below w.heap.size w X ∧ X.heap[w.heap.size]? = some (.cells #[.int .i64 line, .int .i64 (q : Int), .nilIface] 36 (0, 0)) ∧ ∃ r, Value.iface 50 (.pointer (some ⟨w1.heap.size + 1, 0, none⟩)) = Value.iface 50 (.pointer (some ⟨r, 0, none⟩)) ∧ w.heap.size + 1 ≤ r ∧ ∃ s, X.heap[r]? = some (.cells #[.string s, .iface 39 (.pointer (some a))] 91 (0, 0))) := by
    intro X s hX
    have hb2 : Below w.heap.size w ((w1.alloc (.cells #[.iface 9 (.string x), .iface 39 (.pointer (some a))] 20)).alloc (.cells #[.string s, .iface 39 (.pointer (some a))] 91)) := (hbel.alloc (by omega) _).alloc (by simp; omega) _
    refine ⟨⟨hX.2.1.trans hb2.os, hX.2.2.2.trans hb2.tape, hX.2.2.1.trans hb2.output, by rw [hX.1]; exact hb2.size, fun k hk => by rw [hX.1]; exact hb2.block k hk⟩, by rw [hX.1]; exact heap_alloc_at (heap_alloc_at hln), _, rfl, by omega, s, ?_⟩
    rw [hX.1]
    have := heap_alloc_own (w1.alloc (.cells #[.iface 9 (.string x), .iface 39 (.pointer (some a))] 20)) (.cells #[.string s, .iface 39 (.pointer (some a))] 91)
    simpa using this
  have HB : Hid (Below w.heap.size w w1) := hbel
  have HS : Hid (w1.heap.size = w.heap.size + 1) := hsz1
  have HT : Hid (tb < w.heap.size) := lt_of_heap ht
  have HT2 : Hid (w.heap[tb]? = some (.cells (tab nm (.slice (some ⟨hb, ho, none⟩) hn hc) mb l) 29 (0, 0))) := ht
  have HL : Hid (w1.heap[w.heap.size]? = some (.cells #[.int .i64 line, .int .i64 (q : Int), .nilIface] 36 (0, 0))) := hln
  clear hx hca hln ht1 hg1 ht hg hw1 hbel hsz1
  go_cut [9] from 13 to 24 (fun v wx => Below w.heap.size w wx ∧ wx.heap[w.heap.size]? = some (.cells #[.int .i64 line, .int .i64 (q : Int), .nilIface] 36 (0, 0)) ∧ ∃ r, v = .iface 50 (.pointer (some ⟨r, 0, none⟩)) ∧ w.heap.size + 1 ≤ r ∧ ∃ s, wx.heap[r]? = some (.cells #[.string s, .iface 39 (.pointer (some a))] 91 (0, 0)))
  case first =>
    go_region_with (go_at_call 8; refine (errorf_two x t a _ _ ?_ ?_).mono ?_; exact hv.out _ rfl; exact hca2.out _ rfl; rintro e w' ⟨rfl, s, rfl⟩)
    all_goals go_wp2
    all_goals go_meet
    all_goals exact hrl.out _ _ ⟨rfl, rfl, rfl, rfl⟩
  case rest =>
  obtain ⟨hB, hbox, r, rfl, hr, s, hrs⟩ := hcut
  have tcell : wc.heap[tb]? = some (.cells (tab nm (.slice (some ⟨hb, ho, none⟩) hn hc) mb l) 29 (0, 0)) := (hB.block tb HT.out).trans HT2.out
  have b0 : wc.cell? ⟨w.heap.size, 0, none⟩ = some (.int .i64 line) := by simp [World.cell?, hbox]
  have r0 : wc.cell? ⟨r, 0, none⟩ = some (.string s) := by simp [World.cell?, hrs]
  have hsz := hB.size
  have r1 : wc.cell? ⟨r, 1, none⟩ = some (.iface 39 (.pointer (some a))) := by simp [World.cell?, hrs]
  go_wp2_with fail
  refine (errorAt_any tb nm s _ line 50 ⟨r, 0, none⟩ wc (Or.inr rfl) tcell rfl r0).mono ?_
  rintro e w' ⟨rfl, s2, rfl⟩
  go_wp2
  go_ret
  refine ⟨((hB.alloc hsz _).alloc (by simp; omega) _).drew, _, r, rfl, ?_, ?_⟩
  · have := cell_alloc_own (wc.alloc (.cells #[.iface 9 (.string nm), .iface 3 (.int .i64 line), .iface 50 (.pointer (some ⟨r, 0, none⟩))] 20)) #[.string s2, .iface 50 (.pointer (some ⟨r, 0, none⟩))] 91 1
    rw [World.size_alloc] at this
    exact this
  · exact cell_alloc_at _ (cell_alloc_at _ r1)

end Go.Proofs.YbulkcqkgFmt
