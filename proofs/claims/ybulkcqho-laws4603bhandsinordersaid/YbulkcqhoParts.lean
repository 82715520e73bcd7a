import Derived.Test.YbulkcqhoLen
import Derived.Deep.AppendLies
namespace Go.Proofs.Ybulkcqho
open Go.RowKit

/-- The four captured slices: 0 log, 1 lens, 2 flags, 3 rest: the slice type, the element type. -/
def T4 (i : Nat) : TypeId := if i = 2 then 23 else 22
def E4 (i : Nat) : TypeId := if i = 2 then 4 else 3

/-- The four variables lie in blocks N+1 .. N+4; each slice owns its row among the blocks from N+8 on; no two share one. -/
structure Rows4 (N : Nat) (w : World) (V : Nat → Value) (X : Nat → List Value) : Prop where
  size : N + 8 ≤ w.heap.size
  blk : ∀ i, i < 4 → w.heap[N + 1 + i]? = some (.cells #[V i] (T4 i) (0, 0))
  own : ∀ i, i < 4 → w.ownsRow (N + 8) (E4 i) 1 (V i) (X i).length (X i)
  apart : ∀ i j, i < 4 → j < 4 → i ≠ j → ∀ g, (V i).ownBlock = some g → (V j).ownBlock ≠ some g

def upd {α : Type} (f : Nat → α) (i : Nat) (x : α) : Nat → α := fun j => if j = i then x else f j

theorem upd_same {α : Type} (f : Nat → α) (i : Nat) (x : α) : upd f i x i = x := by simp [upd]
theorem upd_other {α : Type} (f : Nat → α) (i j : Nat) (x : α) (h : j ≠ i) : upd f i x j = f j := by simp [upd, h]

theorem Rows4.drew {N : Nat} {w : World} {V : Nat → Value} {X : Nat → List Value} (h : Rows4 N w V X) : Rows4 N w.drew V X :=
  ⟨h.size, h.blk, h.own, h.apart⟩

theorem Rows4.cell {N : Nat} {w : World} {V : Nat → Value} {X : Nat → List Value} (h : Rows4 N w V X) (i : Nat) (hi : i < 4) : w.cell? ⟨N + 1 + i, 0, none⟩ = some (V i) := cell_of_one (h.blk i hi)

/-- Behind the append nothing below B has turned. -/
theorem low_of {B : Nat} {w w0 w1 : World} {e : TypeId} {sz n : Nat} {v : Value} {xs : List Value} (hsz : B ≤ w.heap.size) (ho : w.ownsRow B e sz v n xs)
    (hb : Below w.heap.size w w0) (hg : w0.grownBy w1 v.ownBlock) : (∀ b o, b < B → w1.cell? ⟨b, o, none⟩ = w.cell? ⟨b, o, none⟩) ∧ (∀ b o, b < B → w1.frozen? ⟨b, o, none⟩ = w.frozen? ⟨b, o, none⟩) := by
  have hs := hb.size
  have hlow : ∀ j, j < B → w1.heap[j]? = w.heap[j]? := fun j hj =>
    (hg.block j (by omega) (fun e => by have := ho.lt j e.symm; omega)).trans (hb.block j (by omega))
  exact ⟨fun b o hb => World.cell?_of_block (hlow b hb), fun b o hb => World.frozen?_of_block (hlow b hb)⟩

/-- Behind the append nothing below N+8 has turned. -/
theorem Rows4.low {N : Nat} {w w0 w1 : World} {V : Nat → Value} {X : Nat → List Value} (h : Rows4 N w V X) (i : Nat) (hi : i < 4)
    (hb : Below w.heap.size w w0) (hg : w0.grownBy w1 (V i).ownBlock) : (∀ b o, b < N + 8 → w1.cell? ⟨b, o, none⟩ = w.cell? ⟨b, o, none⟩) ∧ (∀ b o, b < N + 8 → w1.frozen? ⟨b, o, none⟩ = w.frozen? ⟨b, o, none⟩) := by
  have hsz := h.size
  have hs := hb.size
  have hlow : ∀ j, j < N + 8 → w1.heap[j]? = w.heap[j]? := fun j hj =>
    (hg.block j (by omega) (fun e => by have := (h.own i hi).lt j e.symm; omega)).trans (hb.block j (by omega))
  exact ⟨fun b o hb => World.cell?_of_block (hlow b hb), fun b o hb => World.frozen?_of_block (hlow b hb)⟩

/-- 'v = append(v, x)' on variable i: the element's own block, the append, the store into the variable. -/
theorem Rows4.step {N : Nat} {w w0 w1 : World} {V : Nat → Value} {X : Nat → List Value} (h : Rows4 N w V X) (i : Nat) (hi : i < 4) (x : Value) (g cap : Nat)
    (hb : Below w.heap.size w w0) (hs : w0.heap.size = w.heap.size + 1)
    (hown : w1.ownsRow (N + 8) (E4 i) 1 (.slice (some ⟨g, 0, none⟩) ((X i).length + 1) cap) ((X i).length + 1) (X i ++ [x]))
    (hg : w0.grownBy w1 (V i).ownBlock) (hat : (V i).ownBlock = some g ∨ g = w.heap.size + 1) :
    Rows4 N (w1.setCell ⟨N + 1 + i, 0, none⟩ (.slice (some ⟨g, 0, none⟩) ((X i).length + 1) cap)) (upd V i (.slice (some ⟨g, 0, none⟩) ((X i).length + 1) cap)) (upd X i (X i ++ [x])) ∧
    (∀ j, j < N + 8 → j ≠ N + 1 + i → (w1.setCell ⟨N + 1 + i, 0, none⟩ (.slice (some ⟨g, 0, none⟩) ((X i).length + 1) cap)).heap[j]? = w.heap[j]?) ∧
    Below (N + 1) w (w1.setCell ⟨N + 1 + i, 0, none⟩ (.slice (some ⟨g, 0, none⟩) ((X i).length + 1) cap)) := by
  have hsz := h.size
  have hlow : ∀ j, j < N + 8 → w1.heap[j]? = w.heap[j]? := fun j hj =>
    (hg.block j (by omega) (fun e => by have := (h.own i hi).lt j e.symm; omega)).trans (hb.block j (by omega))
  have hsame : ∀ j, j < N + 8 → j ≠ N + 1 + i → (w1.setCell ⟨N + 1 + i, 0, none⟩ (.slice (some ⟨g, 0, none⟩) ((X i).length + 1) cap)).heap[j]? = w.heap[j]? := fun j hj hne =>
    (Below.heap_setCell _ _ _ _ hne).trans (hlow j hj)
  refine ⟨⟨?_, ?_, ?_, ?_⟩, hsame, ?_⟩
  · have := hg.size; simp [World.setCell]; omega
  · intro j hj
    by_cases e : j = i
    · subst e
      rw [upd_same]
      exact one_setCell ((hlow _ (by omega)).trans (h.blk j hj))
    · rw [upd_other _ _ _ _ e]
      exact (hsame _ (by omega) (by omega)).trans (h.blk j hj)
  · intro j hj
    by_cases e : j = i
    · subst e
      rw [upd_same, upd_same]
      have hl : (X j ++ [x]).length = (X j).length + 1 := by simp
      rw [hl]
      exact ownsRow_setCell_below hown (by show N + 1 + j < N + 8; omega) _
    · rw [upd_other _ _ _ _ e, upd_other _ _ _ _ e]
      refine ownsRow_setCell_below ?_ (by show N + 1 + i < N + 8; omega) _
      have h0 : w0.ownsRow (N + 8) (E4 j) 1 (V j) (X j).length (X j) :=
        (h.own j hj).kept (row := none) ⟨hb.os, hb.tape, hb.output, hb.size, fun k hk _ => hb.block k hk⟩ (by cases hv : (V j).ownBlock <;> simp)
      refine h0.kept hg ?_
      cases hv : (V j).ownBlock with
      | none => left; rfl
      | some k => right; exact fun e2 => h.apart j i hj hi e k hv e2.symm
  · intro a b ha hb2 hab q hq
    have hlt : ∀ m, m < 4 → ∀ q, (V m).ownBlock = some q → q < w.heap.size := fun m hm q hq => ((h.own m hm).lt q hq).2
    by_cases ea : a = i
    · subst ea
      rw [upd_same] at hq
      rw [upd_other _ _ _ _ (Ne.symm hab)]
      have hgq : g = q := by simpa [Value.ownBlock] using hq
      subst hgq
      intro hv
      rcases hat with hat | hat
      · exact h.apart a b ha hb2 hab g hat hv
      · have := hlt b hb2 g hv; omega
    · rw [upd_other _ _ _ _ ea] at hq
      by_cases eb : b = i
      · subst eb
        rw [upd_same]
        intro hv
        have hgq : g = q := by simpa [Value.ownBlock] using hv
        subst hgq
        rcases hat with hat | hat
        · exact h.apart a b ha hb2 hab g hq hat
        · have := hlt a ha g hq; omega
      · rw [upd_other _ _ _ _ eb]
        exact h.apart a b ha hb2 hab q hq
  · refine Below.setCell ?_ (by show N + 1 ≤ N + 1 + i; omega) _
    exact ⟨hg.os.trans hb.os, hg.tape.trans hb.tape, hg.output.trans hb.output, by have := hg.size; omega, fun j hj => hlow j (by omega)⟩

/-- One element more at the end of list i. -/
def app (X : Nat → List Value) (i : Nat) (x : Value) : Nat → List Value := upd X i (X i ++ [x])
theorem app_other (X : Nat → List Value) (i j : Nat) (x : Value) (h : j ≠ i) : app X i x j = X j := upd_other _ _ _ _ h
theorem app_same (X : Nat → List Value) (i : Nat) (x : Value) : app X i x i = X i ++ [x] := upd_same _ _ _

/-- What the closure's statements do to the world w, one behind the other: the four slices hold X; below N+8 nothing but their variables has turned. -/
structure Lg (N : Nat) (w : World) (X : Nat → List Value) (w' : World) : Prop where
  rows : ∃ V, Rows4 N w' V X
  same : ∀ j, j < N + 8 → (j < N + 1 ∨ N + 4 < j) → w'.heap[j]? = w.heap[j]?
  below : Below (N + 1) w w'

theorem Lg.start {N : Nat} {w : World} {V : Nat → Value} {X : Nat → List Value} (h : Rows4 N w V X) : Lg N w X w := ⟨⟨V, h⟩, fun _ _ _ => rfl, Below.refl _ _⟩

theorem Lg.step {N : Nat} {u w w0 w1 : World} {V : Nat → Value} {X : Nat → List Value} (hL : Lg N u X w) (h : Rows4 N w V X) (i : Nat) (hi : i < 4) (x : Value) (g cap : Nat)
    (hb : Below w.heap.size w w0) (hs : w0.heap.size = w.heap.size + 1)
    (hown : w1.ownsRow (N + 8) (E4 i) 1 (.slice (some ⟨g, 0, none⟩) ((X i).length + 1) cap) ((X i).length + 1) (X i ++ [x]))
    (hg : w0.grownBy w1 (V i).ownBlock) (hat : (V i).ownBlock = some g ∨ g = w.heap.size + 1) :
    Lg N u (app X i x) (w1.setCell ⟨N + 1 + i, 0, none⟩ (.slice (some ⟨g, 0, none⟩) ((X i).length + 1) cap)) := by
  obtain ⟨r, s, b⟩ := h.step i hi x g cap hb hs hown hg hat
  exact ⟨⟨_, r⟩, fun j hj hn => (s j hj (by omega)).trans (hL.same j hj hn), hL.below.trans b⟩

end Go.Proofs.Ybulkcqho
