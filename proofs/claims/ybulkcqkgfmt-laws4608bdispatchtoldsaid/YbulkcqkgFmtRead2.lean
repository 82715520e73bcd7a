/-
  The walk of readFields at a line that is text: it calls the closure once.
-/
import Derived.Test.YbulkcqkgFmtRead
import Derived.Laws.Rows
namespace Go.Proofs.YbulkcqkgFmt
open Go.RowKit

theorem read_text (w0 : World) (tb : Nat) (nm t : ByteArray) (hv : Value) (mb : Nat) (l line nt : Int) (sl : Option Addr) (n c : Nat) (ss : List ByteArray) (cb fb sb lb wb : Nat) (fl : Bool) (a : Addr) (w : World)
    (hnt : nt < 0) (hn : n ≤ 1024) (h0 : Below w0.heap.size w0 w) (hs : IsStrs w0 sl n ss) (B1 : w0.heap.size ≤ tb) (B2 : w0.heap.size ≤ cb)
    (ht : w.heap[tb]? = some (.cells (tab nm hv mb l) 29 (0, 0))) (hcb : w.heap[cb]? = some (.cells #[.int .i64 0] 3 (0, 0)))
    (hfb : w.heap[fb]? = some (.cells #[.slice sl n c] 22 (0, 0))) (hlb : w.heap[lb]? = some (.cells #[.bool fl] 4 (0, 0)))
    (hwb : w.heap[wb]? = some (.cells #[.iface 39 (.pointer (some a))] 31 (0, 0))) (hca : w.cell? a = some (.string t))
    (n1 : fb ≠ cb) (n2 : lb ≠ cb) (n3 : wb ≠ cb) (n4 : a.block ≠ cb) (m1 : fb ≠ tb) (m2 : lb ≠ tb) (m3 : wb ≠ tb) (m4 : a.block ≠ tb) (m5 : tb ≠ cb) :
    Calls Ybaf.prog 6 #[.pointer (some ⟨tb, 0, none⟩), .agg #[.int .i64 line, .int .i64 nt, .nilIface], .slice sl n c, .func (.func 5) #[] #[.pointer (some ⟨cb, 0, none⟩), .pointer (some ⟨fb, 0, none⟩), .pointer (some ⟨sb, 0, none⟩), .pointer (some ⟨lb, 0, none⟩), .pointer (some ⟨wb, 0, none⟩)]] w fun e w' =>
      Below w0.heap.size w0 w' ∧ w'.heap[tb]? = some (.cells (tab nm hv mb line) 29 (0, 0)) ∧ w'.heap[cb]? = some (.cells #[.int .i64 1] 3 (0, 0)) ∧
      (∀ k, k < w.heap.size → k ≠ tb → k ≠ cb → w'.heap[k]? = w.heap[k]?) ∧
      (fl = false → e = .returned .nilIface) ∧ (fl = true → ∃ p, e = .returned (.iface 50 (.pointer (some ⟨p, 0, none⟩))) ∧ w'.cell? ⟨p, 1, none⟩ = some (.iface 39 (.pointer (some a)))) := by
  have tq : decide (nt ≥ 0) = false := by simpa using hnt
  have hsz := h0.size
  have q1 := lt_of_heap ht
  have q2 := lt_of_heap hcb
  have q3 := World.block_lt_of_cell? w _ hca
  have k0 : w.frozen? ⟨tb, 7, none⟩ = false := by simp [World.frozen?, ht]
  have k1 : w.cell? ⟨tb, 7, none⟩ = some (.int .i64 l) := by simp [World.cell?, ht]
  have hw2 : ∃ w2, (w.alloc (.cells #[.int .i64 line, .int .i64 nt, .nilIface] 36)).setCell ⟨tb, 7, none⟩ (.int .i64 line) = w2 ∧ Below w0.heap.size w0 w2 ∧ w2.heap.size = w.heap.size + 1 ∧ w2.heap[tb]? = some (.cells (tab nm hv mb line) 29 (0, 0)) ∧
      w2.heap[w.heap.size]? = some (.cells #[.int .i64 line, .int .i64 nt, .nilIface] 36 (0, 0)) ∧ ∀ k, k < w.heap.size → k ≠ tb → w2.heap[k]? = w.heap[k]? := by
    refine ⟨_, rfl, (h0.alloc hsz _).setCell B1 _, by simp [World.setCell], heap_setCell_same _ tb 7 _ 29 _ (heap_alloc_at ht), ?_, fun k hk hne => ?_⟩
    · rw [heap_setCell_other _ _ _ _ (by show w.heap.size ≠ tb; omega)]; exact heap_alloc_own w _
    · rw [heap_setCell_other _ _ _ _ hne]; exact Below.heap_alloc w _ k hk
  obtain ⟨w2, e2, hb2, hs2, ht2, hl2, hk2⟩ := hw2
  have hcb2 := (hk2 cb q2 m5.symm).trans hcb
  have hfb2 := (hk2 fb (lt_of_heap hfb) m1).trans hfb
  have hlb2 := (hk2 lb (lt_of_heap hlb) m2).trans hlb
  have hwb2 := (hk2 wb (lt_of_heap hwb) m3).trans hwb
  have hca2 : w2.cell? a = some (.string t) := (World.cell?_of_block (hk2 a.block q3 m4)).trans hca
  have hss : IsStrs (w2.setCell ⟨cb, 0, none⟩ (.int .i64 1)) sl n ss := hs.below (Nat.le_refl _) (hb2.setCell B2 _)
  have hw3 : Hid (∀ X : World, X.Twin (w2.setCell ⟨cb, 0, none⟩ (.int .i64 1)) → Below w0.heap.size w0 X ∧ X.heap.size = w.heap.size + 1 ∧ X.heap[tb]? = some (.cells (tab nm hv mb line) 29 (0, 0)) ∧ X.heap[cb]? = some (.cells #[.int .i64 1] 3 (0, 0)) ∧
      X.cell? ⟨w.heap.size, 0, none⟩ = some (.int .i64 line) ∧ X.cell? a = some (.string t) ∧ ∀ k, k < w.heap.size → k ≠ tb → k ≠ cb → X.heap[k]? = w.heap[k]?) := by
    intro X hX
    have hb3 : Below w0.heap.size w0 (w2.setCell ⟨cb, 0, none⟩ (.int .i64 1)) := hb2.setCell B2 _
    refine ⟨⟨hX.2.1.trans hb3.os, hX.2.2.2.trans hb3.tape, hX.2.2.1.trans hb3.output, by rw [hX.1]; exact hb3.size, fun k hk => by rw [hX.1]; exact hb3.block k hk⟩, by rw [hX.1]; simp [World.setCell, hs2], ?_, ?_, ?_, ?_, fun k hk h1 h2 => ?_⟩
    · rw [hX.1, heap_setCell_other _ _ _ _ m5]; exact ht2
    · rw [hX.1]; exact heap_setCell_same _ cb 0 _ 3 _ hcb2
    · rw [World.cell?_of_block (w := w2) (by rw [hX.1]; exact heap_setCell_other _ _ _ _ (by show w.heap.size ≠ cb; omega))]; simp [World.cell?, hl2]
    · rw [World.cell?_of_block (w := w2) (by rw [hX.1]; exact heap_setCell_other _ _ _ _ n4)]; exact hca2
    · rw [hX.1, heap_setCell_other _ _ _ _ h2]; exact hk2 k hk h1
  have HH : Hid (∀ k, k < w.heap.size → k ≠ tb → w2.heap[k]? = w.heap[k]?) := hk2
  clear hk2 ht2 hl2 hcb hfb hlb hwb hca hs hca2
  go_enter Ybaf.func6, Ybaf.ntmps6
  go_wp2_with fail
  refine (clo_any sl n c ss cb fb sb lb wb fl _ w2 hn hcb2 hfb2 hlb2 hwb2 n1 n2 n3 hss).mono ?_
  rintro e w' ⟨rfl, hX⟩
  obtain ⟨x1, x2, x3, x4, x5, x6, x7⟩ := hw3.out w' hX
  have X7 : Hid (∀ k, k < w.heap.size → k ≠ tb → k ≠ cb → w'.heap[k]? = w.heap[k]?) := x7
  clear x7 hX
  cases fl
  · go_wp2
    go_ret
    exact ⟨x1, x3, x4, X7.out, rfl⟩
  · go_wp2_with fail
    refine (errorAt_any tb nm t _ line 39 a w' (Or.inl rfl) x3 rfl x6).mono ?_
    rintro e w4 ⟨rfl, s2, rfl⟩
    go_wp2
    go_ret
    refine ⟨((x1.alloc x1.size _).alloc (by have := x1.size; simp; omega) _).drew, heap_alloc_at (heap_alloc_at x3), heap_alloc_at (heap_alloc_at x4), fun k hk h1 h2 => ?_, ⟨_, rfl, ?_⟩⟩
    · rw [← X7.out k hk h1 h2]
      exact (Below.heap_alloc _ _ k (by simp; omega)).trans (Below.heap_alloc _ _ k (by omega))
    · have := cell_alloc_own (w'.alloc (.cells #[.iface 9 (.string nm), .iface 3 (.int .i64 line), .iface 39 (.pointer (some a))] 20)) #[.string s2, .iface 39 (.pointer (some a))] 91 1
      rw [World.size_alloc, x2] at this
      exact this

end Go.Proofs.YbulkcqkgFmt
