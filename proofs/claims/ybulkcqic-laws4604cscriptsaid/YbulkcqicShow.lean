/-
  The end of Script: the places, the bytes, the sizes seen.
-/
import Derived.Test.YbulkcqicPlay
namespace Go.Proofs.Ybulkcqic
open Go.RowKit

theorem place_inj {E : Nat → Prop} {S : St} {X : List (Nat × Nat × Nat)} {t : Nat} (h : Good E S X t) {p ch c p' ch' c' : Nat} (hx : (p, ch, c) ∈ X) (hx' : (p', ch', c') ∈ X) (he : p * 16384 + ch * (8 * (c + 1)) = p' * 16384 + ch' * (8 * (c' + 1))) : (p, ch, c) = (p', ch', c') := by
  obtain ⟨hc, hp, hch⟩ := h.chunk hx
  obtain ⟨hc', hp', hch'⟩ := h.chunk hx'
  have b1 := cap_bounds c hc
  have b2 := cap_bounds c' hc'
  have m1 := Nat.mul_le_mul_right (8 * (c + 1)) (show ch + 1 ≤ cap c by omega)
  have m2 := Nat.mul_le_mul_right (8 * (c' + 1)) (show ch' + 1 ≤ cap c' by omega)
  rw [Nat.add_mul] at m1 m2
  have e1 : p = p' := by omega
  subst e1
  have e2 : c = c' := Int.ofNat.inj (hp.2.symm.trans hp'.2)
  subst e2
  have e3 : ch * (8 * (c + 1)) = ch' * (8 * (c + 1)) := by omega
  have e4 : ch = ch' := Nat.eq_of_mul_eq_mul_right (by omega) e3
  rw [e4]

/-- The desk, the slabs, and the sizes seen: cell i of block sn is f i. -/
def Show (B : Nat) (W : World) (sb : Nat) (Y : List Item) (t : Nat) (v4 v5 v6 : Value) (x4 x5 x6 : List Value) (sn : Nat) (f : Nat → Bool) (w : World) : Prop :=
  ∃ U A S, A.sb = sb ∧ Shop U A S Y t w ∧ Desk B W v4 v5 v6 x4 x5 x6 U w ∧ U sn ∧ B ≤ sn ∧ v4.ownBlock ≠ some sn ∧ v5.ownBlock ≠ some sn ∧ v6.ownBlock ≠ some sn ∧ ∀ i, i < 65 → Has w ⟨sn, i, none⟩ (.bool (f i))

section
variable {B : Nat} {W : World} {sb : Nat} {Y : List Item} {t : Nat} {v4 v5 v6 : Value} {x4 x5 x6 : List Value} {sn : Nat} {f : Nat → Bool} {w w2 : World}

theorem Show.stall (h : Show B W sb Y t v4 v5 v6 x4 x5 x6 sn f w) : Stall B W sb Y t v4 v5 v6 x4 x5 x6 w := by
  obtain ⟨U, A, S, h1, h2, h3, _⟩ := h
  exact ⟨U, A, S, h1, h2, h3⟩
theorem show_new (h : Stall B W sb Y t v4 v5 v6 x4 x5 x6 w) (cs : Array Value) (T : TypeId) (hcs : ∀ i, i < 65 → cs[i]? = some (.bool false)) : Show B W sb Y t v4 v5 v6 x4 x5 x6 w.heap.size (fun _ => false) (w.alloc (.cells cs T)) := by
  obtain ⟨U, A, S, h1, h2, h3⟩ := h
  have hg := World.grownBy_alloc w (.cells cs T) none
  have hn : ∀ (v : Value) (e : TypeId) (xs : List Value), Rw B U e v xs w → v.ownBlock ≠ some w.heap.size := fun v e xs hr he => by
    have := (hr.own.lt _ he).2
    omega
  exact ⟨Ux U w (w.alloc (.cells cs T)), A, S, h1, h2.grown hg (fun g hv => by cases hv), h3.grown hg, .inr ⟨Nat.le_refl _, by simp⟩, h3.size, hn _ _ _ h3.r4, hn _ _ _ h3.r5, hn _ _ _ h3.r6, fun i hi => has_own w cs T i _ (hcs i hi)⟩
theorem Show.twin (h : Show B W sb Y t v4 v5 v6 x4 x5 x6 sn f w) (ht : Twin w2 w) : Show B W sb Y t v4 v5 v6 x4 x5 x6 sn f w2 := by
  obtain ⟨U, A, S, h1, h2, h3, h4, h5, h6, h7, h8, h9⟩ := h
  have hK : Keep U w w2 := (Keep.refl U w).twin ht
  exact ⟨U, A, S, h1, ⟨h2.r.twin ht, h2.mu, h2.good, h2.data⟩, h3.kept hK, h4, h5, h6, h7, h8, fun i hi => (h9 i hi).of_block (by rw [ht.1])⟩
theorem Show.set (h : Show B W sb Y t v4 v5 v6 x4 x5 x6 sn f w) (j : Nat) (hj : j < 65) (f' : Nat → Bool) (hf : ∀ i, i < 65 → f' i = if i = j then true else f i) : Show B W sb Y t v4 v5 v6 x4 x5 x6 sn f' (w.setCell ⟨sn, j, none⟩ (.bool true)) := by
  obtain ⟨U, A, S, h1, h2, h3, h4, h5, h6, h7, h8, h9⟩ := h
  have hb : ∀ k, k ≠ sn → (w.setCell ⟨sn, j, none⟩ (.bool true)).heap[k]? = w.heap[k]? := fun k hk => Below.heap_setCell _ _ _ _ hk
  have hr : ∀ (v : Value) (e : TypeId) (xs : List Value), Rw B U e v xs w → v.ownBlock ≠ some sn → Rw B U e v xs (w.setCell ⟨sn, j, none⟩ (.bool true)) := fun v e xs hr hne => ⟨own_block hr.own (fun g hg => hb g (fun e => hne (e ▸ hg))), hr.us⟩
  refine ⟨U, A, S, h1, h2.own (a := ⟨sn, j, none⟩) h4 _, ⟨h3.low, keep_set h3.keep h5 j, by simpa [World.setCell] using h3.size, hr _ _ _ h3.r4 h6, hr _ _ _ h3.r5 h7, hr _ _ _ h3.r6 h8, h3.d45, h3.d46, h3.d56⟩, h4, h5, h6, h7, h8, fun i hi => ?_⟩
  rw [hf i hi]
  by_cases e : i = j
  · subst e
    rw [if_pos rfl]
    exact (h9 i hi).set_same _
  · rw [if_neg e]
    exact (h9 i hi).set_other _ (fun e2 => e (by simpa using (congrArg Addr.off e2).symm))
theorem Show.seen (h : Show B W sb Y t v4 v5 v6 x4 x5 x6 sn f w) (i : Nat) (hi : i < 65) : Has w ⟨sn, i, none⟩ (.bool (f i)) := by
  obtain ⟨U, A, S, h1, h2, h3, h4, h5, h6, h7, h8, h9⟩ := h
  exact h9 i hi
theorem Show.same (h : Show B W sb Y t v4 v5 v6 x4 x5 x6 sn f w) (f' : Nat → Bool) (hf : ∀ i, i < 65 → f' i = f i) : Show B W sb Y t v4 v5 v6 x4 x5 x6 sn f' w := by
  obtain ⟨U, A, S, h1, h2, h3, h4, h5, h6, h7, h8, h9⟩ := h
  exact ⟨U, A, S, h1, h2, h3, h4, h5, h6, h7, h8, fun i hi => by rw [hf i hi]; exact h9 i hi⟩

/-- The places of two live chunks differ. -/
theorem Stall.places (h : Stall B W sb Y t v4 v5 v6 x4 x5 x6 w) {i j : Nat} {p ch c tg p' ch' c' tg' : Nat} (hi : Y[i]? = some (p, ch, c, tg)) (hj : Y[j]? = some (p', ch', c', tg')) (hne : i ≠ j) : p * 16384 + ch * (8 * (c + 1)) ≠ p' * 16384 + ch' * (8 * (c' + 1)) := by
  obtain ⟨U, A, S, _, h2, _⟩ := h
  intro he
  have e1 : (Y.map key)[i]? = some (p, ch, c) := by rw [List.getElem?_map, hi]; rfl
  have e2 : (Y.map key)[j]? = some (p', ch', c') := by rw [List.getElem?_map, hj]; rfl
  have e3 := place_inj h2.good (List.mem_of_getElem? e1) (List.mem_of_getElem? e2) he
  obtain ⟨l1, _⟩ := List.getElem?_eq_some_iff.1 e1
  exact hne ((List.getElem?_inj l1 h2.good.nd).1 (by rw [e1, e2, e3]))
/-- bytes, and what it shows. -/
theorem stall_bytes (h : Stall B W sb Y t v4 v5 v6 x4 x5 x6 w) (ht : t ≤ 1000) {i : Nat} {p ch c tg : Nat} (hi : Y[i]? = some (p, ch, c, tg)) :
    ∃ db at0, c < 64 ∧ p * 16384 + ch * (8 * (c + 1)) < 20000000000 ∧ (∀ o, o < 8 * (c + 1) → w.cell? ⟨db, at0 + o, none⟩ = some (.int .u8 (tg : Int))) ∧
      ∀ X : World, Twin X w → Calls Yba.prog 9 #[.pointer (some ⟨sb, 0, none⟩), .int .u64 ((p * 16384 + ch * (8 * (c + 1)) : Nat) : Int), .int .i64 ((8 * (c + 1) : Nat) : Int)] X fun e w' => e = .returned (.slice (some ⟨db, at0, none⟩) (8 * (c + 1)) (8 * (c + 1))) ∧ w' = X := by
  obtain ⟨U, A, S, rfl, h2, _⟩ := h
  have hx : (p, ch, c) ∈ Y.map key := List.mem_map_of_mem (f := key) (List.mem_of_getElem? hi)
  obtain ⟨hc, hp, hch⟩ := h2.good.chunk hx
  have b1 := cap_bounds c hc
  have m1 := Nat.mul_le_mul_right (8 * (c + 1)) (show ch + 1 ≤ cap c by omega)
  rw [Nat.add_mul] at m1
  have hplt := h2.good.lt ht hp.1
  have hd := h2.data _ (List.mem_of_getElem? hi)
  refine ⟨A.db (p / 8), atC p ch (8 * (c + 1)), hc, by omega, fun o ho => ?_, fun X hX => bytes_any (h2.r.twin hX) p ch (8 * (c + 1)) _ hp.1 hplt (by omega) (by omega) rfl⟩
  rw [(h2.r.dat (p / 8) hp.1.1 hp.1.2 (atC p ch (8 * (c + 1)) + o) (by unfold atC K; omega)).1]
  have := hd o ho
  rw [this]
end

theorem sizeIn_take (Y : List Item) (j : Nat) (y : Item) (hy : Y[j]? = some y) (c : Nat) : sizeIn (Y.take (j + 1)) c = (sizeIn (Y.take j) c || (y.2.2.1 == c)) := by
  unfold sizeIn
  rw [List.take_add_one, hy, List.any_append]
  simp
theorem cntP_seen (Y : List Item) (j : Nat) (y : Item) (hy : Y[j]? = some y) (hs : sizeIn (Y.take j) y.2.2.1 = true) : (∀ c, sizeIn (Y.take (j + 1)) c = sizeIn (Y.take j) c) ∧ cntP (sizeIn (Y.take (j + 1))) 64 = cntP (sizeIn (Y.take j)) 64 := by
  have e : ∀ c, sizeIn (Y.take (j + 1)) c = sizeIn (Y.take j) c := fun c => by
    rw [sizeIn_take Y j y hy]
    by_cases h : y.2.2.1 = c
    · rw [← h, hs]; rfl
    · simp [h]
  exact ⟨e, cntP_congr 64 (fun k _ => e k)⟩
theorem cntP_new (Y : List Item) (j : Nat) (y : Item) (hy : Y[j]? = some y) (hc : y.2.2.1 < 64) (hs : sizeIn (Y.take j) y.2.2.1 = false) : (∀ c, sizeIn (Y.take (j + 1)) c = if c = y.2.2.1 then true else sizeIn (Y.take j) c) ∧ cntP (sizeIn (Y.take (j + 1))) 64 = cntP (sizeIn (Y.take j)) 64 + 1 := by
  have e : ∀ c, sizeIn (Y.take (j + 1)) c = if c = y.2.2.1 then true else sizeIn (Y.take j) c := fun c => by
    rw [sizeIn_take Y j y hy]
    by_cases h : c = y.2.2.1
    · simp [h]
    · rw [if_neg h]
      have : (y.2.2.1 == c) = false := by simpa using fun e => h e.symm
      rw [this, Bool.or_false]
  exact ⟨e, cntP_up 64 _ hc hs (by rw [e, if_pos rfl]) (fun k hk => by rw [e, if_neg hk])⟩

end Go.Proofs.Ybulkcqic
