import Derived.Test.YbulkcqhoClo
namespace Go.Proofs.Ybulkcqho
open Go.RowKit

/-- The queue's fourteen cells. -/
def qb (N : Nat) (s : Int) (wt : Value) (hd : Bool) : Array Value :=
  #[.func (.func 4) #[] #[.pointer (some ⟨N + 1, 0, none⟩), .pointer (some ⟨N + 2, 0, none⟩), .pointer (some ⟨N + 7, 0, none⟩), .pointer (some ⟨N + 3, 0, none⟩), .pointer (some ⟨N + 4, 0, none⟩)],
    .int .i32 s, .int .u32 0, .iface 44 (.pointer (some ⟨N + 6, 1, none⟩)), .int .u32 0, .int .u32 0, .int .u64 0, .pointer none, .pointer none, .int .u64 0, wt, .bool hd, .bool true, .chan (some (N + 5))]

/-- The blocks of the law's own but for the four slices: the buffer, the channel, the queue, the variable q. -/
structure QB (N n k : Nat) (zs : List Int) (s : Int) (wt : Value) (hd : Bool) (w : World) : Prop where
  buf : ∃ cs, w.heap[N]? = some (.cells cs 3 (0, 0)) ∧ cs.size = n ∧ ∀ j, j < n → cs[j]? = some (.int .i64 (if j < k then 0 else zs.getD j 0))
  chn : w.heap[N + 5]? = some (.chan 0 #[] false 0 0 false)
  que : w.heap[N + 6]? = some (.cells (qb N s wt hd) 43 (0, 0))
  var : w.heap[N + 7]? = some (.cells #[.pointer (some ⟨N + 6, 0, none⟩)] 24 (0, 0))

section
variable {N n k : Nat} {zs : List Int} {s : Int} {wt : Value} {hd : Bool} {w : World}

theorem QB.cell (h : QB N n k zs s wt hd w) (i : Nat) : w.cell? ⟨N + 6, i, none⟩ = (qb N s wt hd)[i]? := by simp [World.cell?, h.que]
theorem QB.free (h : QB N n k zs s wt hd w) (i : Nat) : w.frozen? ⟨N + 6, i, none⟩ = false := by simp [World.frozen?, h.que]
theorem QB.bufCell (h : QB N n k zs s wt hd w) (j : Nat) (hj : j < n) : w.cell? ⟨N, j, none⟩ = some (.int .i64 (if j < k then 0 else zs.getD j 0)) := by
  obtain ⟨cs, h1, h2, h3⟩ := h.buf
  simp [World.cell?, h1, h3 j hj]
theorem QB.bufFree (h : QB N n k zs s wt hd w) (j : Nat) : w.frozen? ⟨N, j, none⟩ = false := by
  obtain ⟨cs, h1, h2, h3⟩ := h.buf
  simp [World.frozen?, h1]

theorem QB.set {s' : Int} {wt' : Value} {hd' : Bool} (h : QB N n k zs s wt hd w) (i : Nat) (v : Value) (hq : (qb N s wt hd).setIfInBounds i v = qb N s' wt' hd') : QB N n k zs s' wt' hd' (w.setCell ⟨N + 6, i, none⟩ v) := by
  refine ⟨?_, ?_, ?_, ?_⟩
  · obtain ⟨cs, h1, h2⟩ := h.buf
    exact ⟨cs, (Below.heap_setCell _ _ _ _ (by show N ≠ N + 6; omega)).trans h1, h2⟩
  · exact (Below.heap_setCell _ _ _ _ (by show N + 5 ≠ N + 6; omega)).trans h.chn
  · rw [← hq]; exact heap_setCell_same w (N + 6) i _ 43 v h.que
  · exact (Below.heap_setCell _ _ _ _ (by show N + 7 ≠ N + 6; omega)).trans h.var

theorem QB.lock (h : QB N n k zs s wt hd w) (s' : Int) : QB N n k zs s' wt hd (w.setCell ⟨N + 6, 1, none⟩ (.int .i32 s')) := h.set 1 _ rfl
theorem QB.wait (h : QB N n k zs s wt hd w) (wt' : Value) : QB N n k zs s wt' hd (w.setCell ⟨N + 6, 10, none⟩ wt') := h.set 10 _ rfl
theorem QB.handle (h : QB N n k zs s wt hd w) (hd' : Bool) : QB N n k zs s wt hd' (w.setCell ⟨N + 6, 11, none⟩ (.bool hd')) := h.set 11 _ rfl

theorem QB.clear (h : QB N n k zs s wt hd w) (hk : k < n) : QB N n (k + 1) zs s wt hd (w.setCell ⟨N, k, none⟩ (.int .i64 0)) := by
  refine ⟨?_, ?_, ?_, ?_⟩
  · obtain ⟨cs, h1, h2, h3⟩ := h.buf
    refine ⟨cs.setIfInBounds k (.int .i64 0), heap_setCell_same w N k _ 3 _ h1, by simpa using h2, fun j hj => ?_⟩
    rw [Array.getElem?_setIfInBounds]
    by_cases e : k = j
    · subst e; simp [h2, hk]
    · rw [if_neg e, h3 j hj]
      by_cases e2 : j < k
      · rw [if_pos e2, if_pos (by omega)]
      · rw [if_neg e2, if_neg (by omega)]
  · exact (Below.heap_setCell _ _ _ _ (by show N + 5 ≠ N; omega)).trans h.chn
  · exact (Below.heap_setCell _ _ _ _ (by show N + 6 ≠ N; omega)).trans h.que
  · exact (Below.heap_setCell _ _ _ _ (by show N + 7 ≠ N; omega)).trans h.var

theorem QB.later {X : Nat → List Value} {w' : World} (h : QB N n k zs s wt hd w) (hL : Lg N w X w') : QB N n k zs s wt hd w' := by
  refine ⟨?_, ?_, ?_, ?_⟩
  · obtain ⟨cs, h1, h2⟩ := h.buf
    exact ⟨cs, (hL.same N (by omega) (by omega)).trans h1, h2⟩
  · exact (hL.same _ (by omega) (by omega)).trans h.chn
  · exact (hL.same _ (by omega) (by omega)).trans h.que
  · exact (hL.same _ (by omega) (by omega)).trans h.var

theorem QB.seen {m c : Nat} {a : Option Addr} (h : QB N n k zs 0 (.slice a m c) true w) : Seen N m c a w :=
  ⟨cell_of_one h.var, (h.cell 1).trans rfl, h.free 1, (h.cell 10).trans rfl, (h.cell 11).trans rfl⟩
end

/-- The slices' four variables are none of these cells. -/
theorem Rows4.setElse {N : Nat} {w : World} {V : Nat → Value} {X : Nat → List Value} (h : Rows4 N w V X) (b i : Nat) (hb : b < N + 1 ∨ N + 4 < b) (hb8 : b < N + 8) (u : Value) : Rows4 N (w.setCell ⟨b, i, none⟩ u) V X :=
  ⟨by have := h.size; simp [World.setCell]; omega, fun j hj => (Below.heap_setCell _ _ _ _ (by show N + 1 + j ≠ b; omega)).trans (h.blk j hj), fun j hj => ownsRow_setCell_below (h.own j hj) (by show b < N + 8; exact hb8) _, h.apart⟩

/-- What the slices hold when k of n items have been handled. -/
def X4 (n : Nat) (zs : List Int) (k : Nat) : Nat → List Value
  | 0 => (zs.take k).map (.int .i64)
  | 1 => (List.range k).map fun j : Nat => .int .i64 ((n : Int) - (j : Int))
  | 2 => List.replicate k (.bool true)
  | 3 => (List.range k).map fun j : Nat => .int .i64 ((n : Int) - (j : Int) - 1)
  | _ => []

theorem X4_len (n : Nat) (zs : List Int) (k : Nat) (hk : k ≤ zs.length) (i : Nat) (hi : i < 4) : (X4 n zs k i).length = k := by
  match i, hi with
  | 0, _ => simp [X4, hk]
  | 1, _ => simp [X4]
  | 2, _ => simp [X4]
  | 3, _ => simp [X4]

theorem X4_succ (n : Nat) (zs : List Int) (k : Nat) (hk : k < zs.length) (hn : k < n) :
    app (app (app (app (X4 n zs k) 0 (.int .i64 (zs.getD k 0))) 1 (.int .i64 (((n - k - 1 : Nat) : Int) + 1))) 2 (.bool true)) 3 (.int .i64 ((n - k - 1 : Nat) : Int)) = X4 n zs (k + 1) := by
  funext i
  have e1 : (((n - k - 1 : Nat) : Int) + 1) = (n : Int) - k := by omega
  have e2 : ((n - k - 1 : Nat) : Int) = (n : Int) - k - 1 := by omega
  rw [e1, e2]
  match i with
  | 0 => simp [app, upd, X4]; rw [List.take_succ_eq_append_getElem (by simpa using hk)]; simp [hk]
  | 1 => simp [app, upd, X4, List.range_succ]
  | 2 => simp [app, upd, X4, List.replicate_succ']
  | 3 => simp [app, upd, X4, List.range_succ]
  | i + 4 => simp [app, upd, X4]

/-- THE STATE OF THE RUN: k items of n have been handled, the lock held by the run. -/
structure Inv (N n k : Nat) (zs : List Int) (s : Int) (w0 w : World) : Prop where
  rows : ∃ V, Rows4 N w V (X4 n zs k)
  que : ∃ a, QB N n k zs s (.slice a (n - k) (n - k)) false w ∧ (k < n → a = some ⟨N, k, none⟩)
  below : Below N w0 w

end Go.Proofs.Ybulkcqho
