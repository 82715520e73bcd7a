/-
  The start of Script, and what its walk asks of the slices.
-/
import Derived.Test.YbulkcqicDesk
namespace Go.Proofs.Ybulkcqic
open Go.RowKit

theorem good_new : Good No (St0 88) [] 0 := by
  have e : ∀ i, (St0 88).w i = if i = 179 then -1 else if 3 ≤ i ∧ i < 3 + 88 then -1 else 0 := fun i => rfl
  have hn : ∀ q, ¬ Live (St0 88) q := fun q h => absurd h.1 (Nat.not_lt_zero _)
  refine ⟨Nat.le_refl _, ⟨0, ?_, by omega, [], List.nodup_nil, ?_, trivial, fun q => ⟨fun h => absurd h (by simp), fun h => absurd h.1 (hn q)⟩, rfl⟩, fun c hc => ⟨0, [], List.nodup_nil, ?_, trivial, fun q => ⟨fun h => absurd h (by simp), fun h => absurd h.1 (hn q)⟩, rfl⟩, fun c hc => ⟨[], List.nodup_nil, fun q => ⟨fun h => absurd h (by simp), fun h => absurd h.1 (hn q)⟩, ?_, Nat.le_refl _⟩, fun c h1 h2 => ?_, fun q hq => absurd hq (hn q), fun i hi => absurd hi (Nat.not_lt_zero _), fun q c hc hq => absurd hq.1 (hn q), fun x hx => absurd hx (by simp), List.nodup_nil⟩
  · rw [e, if_neg (by omega), if_neg (by omega)]; rfl
  · rw [e, if_pos rfl]; rfl
  · rw [e, if_neg (by omega), if_pos (by omega)]; rfl
  · rw [e, if_neg (by omega), if_neg (by omega)]; rfl
  · rw [e, if_neg (by omega), if_neg (by omega)]

theorem slice_own {w : World} {B e : Nat} {v : Value} {n : Nat} {xs : List Value} (h : w.ownsRow B e 1 v n xs) : ∃ a c, v = .slice a n c := by
  rcases h.2 with ⟨rfl, rfl⟩ | ⟨g, cap, cur, rfl, _⟩
  · exact ⟨none, 0, rfl⟩
  · exact ⟨_, _, rfl⟩
theorem slice_some {w : World} {B e : Nat} {v : Value} {n : Nat} {xs : List Value} (h : w.ownsRow B e 1 v n xs) (hn : 0 < n) : ∃ g c, v = .slice (some ⟨g, 0, none⟩) n c := by
  rcases h.2 with ⟨rfl, rfl⟩ | ⟨g, cap, cur, rfl, _⟩
  · omega
  · exact ⟨_, _, rfl⟩

/-- The caller's desk, and the slabs behind it. -/
def Stall (B : Nat) (W : World) (sb : Nat) (Y : List Item) (t : Nat) (v4 v5 v6 : Value) (x4 x5 x6 : List Value) (w : World) : Prop :=
  ∃ U A S, A.sb = sb ∧ Shop U A S Y t w ∧ Desk B W v4 v5 v6 x4 x5 x6 U w

section
variable {B : Nat} {W : World} {sb : Nat} {Y : List Item} {t : Nat} {v4 v5 v6 : Value} {x4 x5 x6 : List Value} {w w2 : World}

theorem Desk.grown {U : Nat → Prop} (h : Desk B W v4 v5 v6 x4 x5 x6 U w) (hg : w.grownBy w2 none) : Desk B W v4 v5 v6 x4 x5 x6 (Ux U w w2) w2 := by
  have hg' : w.grownBy w2 (Value.slice none 0 0).ownBlock := hg
  have ha : ∀ v, Apt (.slice none 0 0) v := fun v g h1 => absurd h1 (by simp [Value.ownBlock])
  exact ⟨fun k hk => .inl (h.low k hk), keep_grown h.keep h.size hg' (fun g hv => absurd hv (by simp [Value.ownBlock])), Nat.le_trans h.size hg.size, h.r4.grown hg' (ha _), h.r5.grown hg' (ha _), h.r6.grown hg' (ha _), h.d45, h.d46, h.d56⟩
/-- The caller makes new memory. -/
theorem Stall.grown (h : Stall B W sb Y t v4 v5 v6 x4 x5 x6 w) (hg : w.grownBy w2 none) : Stall B W sb Y t v4 v5 v6 x4 x5 x6 w2 := by
  obtain ⟨U, A, S, h1, h2, h3⟩ := h
  exact ⟨Ux U w w2, A, S, h1, h2.grown hg (fun g hv => by cases hv), h3.grown hg⟩
theorem Stall.twin (h : Stall B W sb Y t v4 v5 v6 x4 x5 x6 w) (ht : Twin w2 w) : Stall B W sb Y t v4 v5 v6 x4 x5 x6 w2 := by
  refine h.grown ⟨ht.2.1, ht.2.2.2, ht.2.2.1, by rw [ht.1]; exact Nat.le_refl _, fun k _ _ => by rw [ht.1]⟩
theorem Stall.low (h : Stall B W sb Y t v4 v5 v6 x4 x5 x6 w) : Keep (fun k => k < B) W w := by
  obtain ⟨U, A, S, h1, h2, h3⟩ := h
  exact h3.keep
theorem Stall.cell4 (h : Stall B W sb Y t v4 v5 v6 x4 x5 x6 w) (hn : 0 < x4.length) : ∃ g c, v4 = .slice (some ⟨g, 0, none⟩) x4.length c ∧ ∀ j, j < x4.length → w.cell? ⟨g, j, none⟩ = x4[j]? ∧ w.frozen? ⟨g, j, none⟩ = false := by
  obtain ⟨U, A, S, h1, h2, h3⟩ := h
  obtain ⟨g, c, rfl⟩ := slice_some h3.r4.own hn
  exact ⟨g, c, rfl, fun j hj => ⟨h3.r4.own.cellAt j (by omega), h3.r4.own.frozenAt j⟩⟩
theorem Stall.cell5 (h : Stall B W sb Y t v4 v5 v6 x4 x5 x6 w) (hn : 0 < x5.length) : ∃ g c, v5 = .slice (some ⟨g, 0, none⟩) x5.length c ∧ ∀ j, j < x5.length → w.cell? ⟨g, j, none⟩ = x5[j]? ∧ w.frozen? ⟨g, j, none⟩ = false := by
  obtain ⟨U, A, S, h1, h2, h3⟩ := h
  obtain ⟨g, c, rfl⟩ := slice_some h3.r5.own hn
  exact ⟨g, c, rfl, fun j hj => ⟨h3.r5.own.cellAt j (by omega), h3.r5.own.frozenAt j⟩⟩
theorem Stall.cell6 (h : Stall B W sb Y t v4 v5 v6 x4 x5 x6 w) (hn : 0 < x6.length) : ∃ g c, v6 = .slice (some ⟨g, 0, none⟩) x6.length c ∧ ∀ j, j < x6.length → w.cell? ⟨g, j, none⟩ = x6[j]? ∧ w.frozen? ⟨g, j, none⟩ = false := by
  obtain ⟨U, A, S, h1, h2, h3⟩ := h
  obtain ⟨g, c, rfl⟩ := slice_some h3.r6.own hn
  exact ⟨g, c, rfl, fun j hj => ⟨h3.r6.own.cellAt j (by omega), h3.r6.own.frozenAt j⟩⟩

/-- alloc. -/
theorem stall_alloc (h : Stall B W sb Y t v4 v5 v6 x4 x5 x6 w) (ht : t ≤ 900) {c : Nat} (hc : c < 64) (tg : Nat) :
    Calls Yba.prog 6 #[.pointer (some ⟨sb, 0, none⟩), .int .i64 ((8 * (c + 1) : Nat) : Int)] w fun e w' =>
      ∃ U A S p ch, A.sb = sb ∧ e = .returned (.int .u64 ((p * 16384 + ch * (8 * (c + 1)) : Nat) : Int)) ∧ Fill U A S Y (t + 2) w' p ch c 0 tg ∧ Desk B W v4 v5 v6 x4 x5 x6 U w' := by
  obtain ⟨U, A, S, rfl, h2, h3⟩ := h
  refine (shop_alloc h2 ht hc).mono ?_
  rintro e w' ⟨A', S', p, ch, g1, rfl, g3, g4, g5, g6, g7, g8⟩
  exact ⟨U, A', S', p, ch, g1, rfl, ⟨g4, g5, g6, g7, fun o ho => absurd ho (by omega)⟩, h3.kept g8⟩
/-- release. -/
theorem stall_release {p ch c tg : Nat} {Z : List Item} (h : Stall B W sb Y t v4 v5 v6 x4 x5 x6 w) (ht : t ≤ 900) (hp : Y.Perm ((p, ch, c, tg) :: Z)) :
    Calls Yba.prog 7 #[.pointer (some ⟨sb, 0, none⟩), .int .u64 ((p * 16384 + ch * (8 * (c + 1)) : Nat) : Int), .int .i64 ((8 * (c + 1) : Nat) : Int)] w fun e w' =>
      e = .returned (.tuple #[]) ∧ Stall B W sb Z (t + 1) v4 v5 v6 x4 x5 x6 w' := by
  obtain ⟨U, A, S, rfl, h2, h3⟩ := h
  refine (shop_release (h2.perm hp) ht).mono ?_
  rintro e w' ⟨rfl, A', S', g1, g2, g3⟩
  exact ⟨rfl, U, A', S', g1, g2, h3.kept g3⟩
/-- held. -/
theorem stall_held (h : Stall B W sb Y t v4 v5 v6 x4 x5 x6 w) :
    Calls Yba.prog 8 #[.pointer (some ⟨sb, 0, none⟩)] w fun e w' => ∃ X : Int, e = .returned (.tuple #[.int .i64 X, .int .i64 ((cntP (sizeIn Y) 64 : Nat) : Int)]) ∧ Keep (fun k => k < B) W w' := by
  obtain ⟨U, A, S, rfl, h2, h3⟩ := h
  refine (held_any h2.r h2.mu).mono ?_
  rintro e w' ⟨rfl, _, g3⟩
  exact ⟨_, by rw [cnt_good h2.good], h3.keep.trans (g3.sub h3.low)⟩

theorem Stall.app4 (h : Stall B W sb Y t v4 v5 v6 x4 x5 x6 w) {o : Obj} {g n cap : Nat} {x : Value} (hg : (w.alloc o).grownBy w2 v4.ownBlock) (hown : w2.ownsRow B 25 1 (.slice (some ⟨g, 0, none⟩) n cap) n (x4 ++ [x])) (hn : n = (x4 ++ [x]).length) (hat : v4.ownBlock = some g ∨ g = w.heap.size + 1) (hlt : g < w2.heap.size) :
    Stall B W sb Y t (.slice (some ⟨g, 0, none⟩) n cap) v5 v6 (x4 ++ [x]) x5 x6 w2 := by
  obtain ⟨U, A, S, h1, h2, h3⟩ := h
  have hg2 := grown_via o hg
  exact ⟨Ux U w w2, A, S, h1, h2.grown hg2 h3.r4.us, h3.app4 hg2 hown hn (hat.imp id (fun h => by omega)) hlt⟩
theorem Stall.app5 (h : Stall B W sb Y t v4 v5 v6 x4 x5 x6 w) {o : Obj} {g n cap : Nat} {x : Value} (hg : (w.alloc o).grownBy w2 v5.ownBlock) (hown : w2.ownsRow B 3 1 (.slice (some ⟨g, 0, none⟩) n cap) n (x5 ++ [x])) (hn : n = (x5 ++ [x]).length) (hat : v5.ownBlock = some g ∨ g = w.heap.size + 1) (hlt : g < w2.heap.size) :
    Stall B W sb Y t v4 (.slice (some ⟨g, 0, none⟩) n cap) v6 x4 (x5 ++ [x]) x6 w2 := by
  obtain ⟨U, A, S, h1, h2, h3⟩ := h
  have hg2 := grown_via o hg
  exact ⟨Ux U w w2, A, S, h1, h2.grown hg2 h3.r5.us, h3.app5 hg2 hown hn (hat.imp id (fun h => by omega)) hlt⟩
theorem Stall.app6 (h : Stall B W sb Y t v4 v5 v6 x4 x5 x6 w) {o : Obj} {g n cap : Nat} {x : Value} (hg : (w.alloc o).grownBy w2 v6.ownBlock) (hown : w2.ownsRow B 5 1 (.slice (some ⟨g, 0, none⟩) n cap) n (x6 ++ [x])) (hn : n = (x6 ++ [x]).length) (hat : v6.ownBlock = some g ∨ g = w.heap.size + 1) (hlt : g < w2.heap.size) :
    Stall B W sb Y t v4 v5 (.slice (some ⟨g, 0, none⟩) n cap) x4 x5 (x6 ++ [x]) w2 := by
  obtain ⟨U, A, S, h1, h2, h3⟩ := h
  have hg2 := grown_via o hg
  exact ⟨Ux U w w2, A, S, h1, h2.grown hg2 h3.r6.us, h3.app6 hg2 hown hn (hat.imp id (fun h => by omega)) hlt⟩
theorem Stall.set4 {g n cap : Nat} (h : Stall B W sb Y t (.slice (some ⟨g, 0, none⟩) n cap) v5 v6 x4 x5 x6 w) (hn : n = x4.length) (j : Nat) (u : Value) : Stall B W sb Y t (.slice (some ⟨g, 0, none⟩) n cap) v5 v6 (x4.set j u) x5 x6 (w.setCell ⟨g, j, none⟩ u) := by
  obtain ⟨U, A, S, h1, h2, h3⟩ := h
  exact ⟨U, A, S, h1, h2.own (a := ⟨g, j, none⟩) (h3.r4.us g rfl) u, h3.set4 hn j u⟩
theorem Stall.set5 {g n cap : Nat} (h : Stall B W sb Y t v4 (.slice (some ⟨g, 0, none⟩) n cap) v6 x4 x5 x6 w) (hn : n = x5.length) (j : Nat) (u : Value) : Stall B W sb Y t v4 (.slice (some ⟨g, 0, none⟩) n cap) v6 x4 (x5.set j u) x6 (w.setCell ⟨g, j, none⟩ u) := by
  obtain ⟨U, A, S, h1, h2, h3⟩ := h
  exact ⟨U, A, S, h1, h2.own (a := ⟨g, j, none⟩) (h3.r5.us g rfl) u, h3.set5 hn j u⟩
theorem Stall.set6 {g n cap : Nat} (h : Stall B W sb Y t v4 v5 (.slice (some ⟨g, 0, none⟩) n cap) x4 x5 x6 w) (hn : n = x6.length) (j : Nat) (u : Value) : Stall B W sb Y t v4 v5 (.slice (some ⟨g, 0, none⟩) n cap) x4 x5 (x6.set j u) (w.setCell ⟨g, j, none⟩ u) := by
  obtain ⟨U, A, S, h1, h2, h3⟩ := h
  exact ⟨U, A, S, h1, h2.own (a := ⟨g, j, none⟩) (h3.r6.us g rfl) u, h3.set6 hn j u⟩
theorem Stall.cut {g4 g5 g6 n c4 c5 c6 : Nat} (h : Stall B W sb Y t (.slice (some ⟨g4, 0, none⟩) n c4) (.slice (some ⟨g5, 0, none⟩) n c5) (.slice (some ⟨g6, 0, none⟩) n c6) x4 x5 x6 w) (n4 : n = x4.length) (n5 : n = x5.length) (n6 : n = x6.length) (m : Nat) (hm : m ≤ n) :
    Stall B W sb Y t (.slice (some ⟨g4, 0, none⟩) m c4) (.slice (some ⟨g5, 0, none⟩) m c5) (.slice (some ⟨g6, 0, none⟩) m c6) (x4.take m) (x5.take m) (x6.take m) w := by
  obtain ⟨U, A, S, h1, h2, h3⟩ := h
  exact ⟨U, A, S, h1, h2, ⟨h3.low, h3.keep, h3.size, h3.r4.cut n4 m hm, h3.r5.cut n5 m hm, h3.r6.cut n6 m hm, h3.d45, h3.d46, h3.d56⟩⟩
end

end Go.Proofs.Ybulkcqic
