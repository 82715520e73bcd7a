import Derived.Test.YbulkcqhoRun
import Derived.Laws.CopyOwn
import Derived.Deep.OwnRows
namespace Go.Proofs.Ybulkcqho
open Go.RowKit

theorem push_new {α : Type} (a : Array α) (x : α) (k : Nat) (h : k = a.size) : (a.push x)[k]? = some x := by subst h; simp
theorem push_old {α : Type} (a : Array α) (x : α) (k : Nat) (h : k < a.size) : (a.push x)[k]? = a[k]? := by rw [Array.getElem?_push, if_neg (by omega)]

/-- 'copy(buf, items)' into the block that 'make' has just laid. -/
theorem copy_run (w : World) (n : Nat) (zs : List Int) (a0 : Option Addr) (cap : Nat) (hz : n ≤ zs.length) (ha : 0 < n → ∃ x, a0 = some x ∧ ∀ i, i < zs.length → w.cell? (x.add i) = some (.int .i64 (zs.getD i 0))) :
    ∃ cs : Array Value, cs.size = n ∧ (∀ j, j < n → cs[j]? = some (.int .i64 (zs.getD j 0))) ∧
      ∀ ty, (Builtin.copy_ #[22, 22] ty #[.slice (some ⟨w.heap.size, 0, none⟩) n n, .slice a0 n cap]).run Yba.prog (w.alloc (.cells (madeCells #[.int .i64 0] n) 3)) = .ok (goInt n) (w.alloc (.cells cs 3)) := by
  have hsz : (Yba.prog.info? 3).map (·.size) = some 1 := by kernel_rfl
  by_cases h0 : n = 0
  · subst h0
    refine ⟨madeCells #[.int .i64 0] 0, by simp [madeCells], fun j hj => by omega, fun ty => ?_⟩
    exact run_copy_none (P := Yba.prog) _ 22 22 ty 3 _ _ 0 0 0 cap Yba.underlying22 hsz (by simp)
  · obtain ⟨x, rfl, hx⟩ := ha (by omega)
    refine ⟨((zs.take n).map (Value.int .i64)).toArray, by simp; omega, fun j hj => by simp [hj]; rw [List.getElem?_eq_getElem (by omega)]; rfl, fun ty => ?_⟩
    have hr := run_copy_row (P := Yba.prog) (w.alloc (.cells (madeCells #[.int .i64 0] n) 3)) 22 22 ty 3 w.heap.size 0 n n x n cap (madeCells #[.int .i64 0] n) 3 ((zs.take n).map (Value.int .i64)) Yba.underlying22 hsz (heap_alloc_new w _)
      (by simp; omega) (fun j v hv => ?_) (by simp [madeCells]; omega) (fun u hu => by obtain ⟨z, _, rfl⟩ := List.mem_map.1 hu; rfl)
    · rw [hr]
      have hl : ((zs.take n).map (Value.int .i64)).length = n := by simp; omega
      have hd : (madeCells #[Value.int .i64 0] n).toList.drop (0 + n) = [] := by simp [madeCells]
      rw [hl, hd, List.take_zero, List.nil_append, List.append_nil]
      congr 1
      have e : ∀ (a b : World), a.heap = b.heap → a.tape = b.tape → a.drawn = b.drawn → a.os = b.os → a.output = b.output → a = b := fun a b h1 h2 h3 h4 h5 => by
        cases a; cases b; simp_all
      refine e _ _ ?_ rfl rfl rfl rfl
      apply Array.ext_getElem?
      intro i
      by_cases hi : i = w.heap.size
      · subst hi
        rw [setRow_heap _ _ _ _ _ _ (heap_alloc_new w _), heap_alloc_new w _]
      · rw [setRow_other _ _ _ _ (by omega)]
        show (w.heap.push _)[i]? = (w.heap.push _)[i]?
        rw [Array.getElem?_push, Array.getElem?_push, if_neg hi, if_neg hi]
    · have hj : j < n := by
        rcases Nat.lt_or_ge j n with h | h
        · exact h
        · rw [List.getElem?_eq_none (by simp; omega)] at hv; cases hv
      have hc := hx j (by omega)
      have hv' : v = .int .i64 (zs.getD j 0) := by
        simp [hj] at hv
        obtain ⟨a, ha, rfl⟩ := hv
        simp [ha]
      rw [hv', ← hc]
      exact ((Below.refl _ w).alloc (Nat.le_refl _) _).cell (World.block_lt_of_cell? w _ hc)

/-- The world in which the queue's loop is begun. -/
def startW (w : World) (cs : Array Value) (n : Nat) : World :=
  ((((((((w.alloc (.cells cs 3)).alloc (.cells #[.slice none 0 0] 22)).alloc (.cells #[.slice none 0 0] 22)).alloc (.cells #[.slice none 0 0] 23)).alloc (.cells #[.slice none 0 0] 22)).alloc (.chan 0 #[] false 0 0 false)).alloc
    (.cells (qb w.heap.size 0 (.slice (some ⟨w.heap.size, 0, none⟩) n n) false) 43)).alloc (.cells #[.pointer (some ⟨w.heap.size + 6, 0, none⟩)] 24)).drew

theorem start_heap (w : World) (cs : Array Value) (n : Nat) : (startW w cs n).heap =
    (((((((w.heap.push (.cells cs 3)).push (.cells #[.slice none 0 0] 22)).push (.cells #[.slice none 0 0] 22)).push (.cells #[.slice none 0 0] 23)).push (.cells #[.slice none 0 0] 22)).push (.chan 0 #[] false 0 0 false)).push
      (.cells (qb w.heap.size 0 (.slice (some ⟨w.heap.size, 0, none⟩) n n) false) 43)).push (.cells #[.pointer (some ⟨w.heap.size + 6, 0, none⟩)] 24) := rfl

theorem start_inv (w : World) (cs : Array Value) (n : Nat) (zs : List Int) (hs : cs.size = n) (hc : ∀ j, j < n → cs[j]? = some (.int .i64 (zs.getD j 0))) : Inv w.heap.size n 0 zs 0 w (startW w cs n) := by
  refine ⟨⟨fun _ => .slice none 0 0, ?_, ?_, ?_, ?_⟩, ⟨some ⟨w.heap.size, 0, none⟩, ⟨⟨cs, ?_, hs, fun j hj => by simpa using hc j hj⟩, ?_, ?_, ?_⟩, fun _ => rfl⟩, ?_⟩
  · rw [start_heap]; simp
  · intro i hi
    rw [start_heap]
    match i, hi with
    | 0, _ => (repeat rw [push_old _ _ _ (by simp only [Array.size_push]; omega)]); exact push_new _ _ _ (by simp [Array.size_push])
    | 1, _ => (repeat rw [push_old _ _ _ (by simp only [Array.size_push]; omega)]); exact push_new _ _ _ (by simp [Array.size_push])
    | 2, _ => (repeat rw [push_old _ _ _ (by simp only [Array.size_push]; omega)]); exact push_new _ _ _ (by simp [Array.size_push])
    | 3, _ => (repeat rw [push_old _ _ _ (by simp only [Array.size_push]; omega)]); exact push_new _ _ _ (by simp [Array.size_push])
  · intro i hi
    match i, hi with
    | 0, _ => exact World.ownsRow_nil _ _ _ _
    | 1, _ => exact World.ownsRow_nil _ _ _ _
    | 2, _ => exact World.ownsRow_nil _ _ _ _
    | 3, _ => exact World.ownsRow_nil _ _ _ _
  · intro i j hi hj hij g hg; simp [Value.ownBlock] at hg
  · rw [start_heap]
    (repeat rw [push_old _ _ _ (by simp only [Array.size_push]; omega)]); exact push_new _ _ _ (by simp)
  · rw [start_heap]
    (repeat rw [push_old _ _ _ (by simp only [Array.size_push]; omega)]); exact push_new _ _ _ (by simp)
  · rw [start_heap]
    (repeat rw [push_old _ _ _ (by simp only [Array.size_push]; omega)]); exact push_new _ _ _ (by simp)
  · rw [start_heap]
    (repeat rw [push_old _ _ _ (by simp only [Array.size_push]; omega)]); exact push_new _ _ _ (by simp)
  · exact ((((((((Below.refl _ w).alloc (Nat.le_refl _) _).alloc (by simp) _).alloc (by simp; omega) _).alloc (by simp; omega) _).alloc (by simp; omega) _).alloc (by simp; omega) _).alloc (by simp; omega) _).alloc (by simp; omega) _ |>.drew

end Go.Proofs.Ybulkcqho
