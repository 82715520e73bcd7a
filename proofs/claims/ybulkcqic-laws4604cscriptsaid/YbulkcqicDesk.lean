/-
  The caller's side of Script: the three slices; the chunk being filled; the count.
-/
import Derived.Test.YbulkcqicShop
import Derived.Deep.AppendLies
import Derived.Laws.OwnMore
namespace Go.Proofs.Ybulkcqic
open Go.RowKit

theorem disj {p ch c q k c' o e i j : Nat} (hc : c < 64) (hc' : c' < 64) (hch : ch < cap c) (hk : k < cap c') (ho : o < 8 * (c' + 1)) (he : e < 8 * (c + 1)) (hne : q = p → c' = c ∧ k ≠ ch)
    (hi : i = atC q k (8 * (c' + 1)) + o) (hj : j = atC p ch (8 * (c + 1)) + e) : ¬ (q / 8 = p / 8 ∧ i = j) := by
  unfold atC at hi hj
  have b1 := cap_bounds c hc
  have b2 := cap_bounds c' hc'
  have m1 := Nat.mul_le_mul_right (8 * (c + 1)) (show ch + 1 ≤ cap c by omega)
  have m2 := Nat.mul_le_mul_right (8 * (c' + 1)) (show k + 1 ≤ cap c' by omega)
  rw [Nat.add_mul] at m1 m2
  by_cases hq : q = p
  · obtain ⟨rfl, hkc⟩ := hne hq
    subst hq
    rcases Nat.lt_or_gt_of_ne hkc with h | h
    · have m3 := Nat.mul_le_mul_right (8 * (c' + 1)) (show k + 1 ≤ ch by omega)
      rw [Nat.add_mul] at m3
      omega
    · have m3 := Nat.mul_le_mul_right (8 * (c' + 1)) (show ch + 1 ≤ k by omega)
      rw [Nat.add_mul] at m3
      omega
  · omega

section
variable {E : Nat → Prop} {S : St} {X : List (Nat × Nat × Nat)} {t : Nat}
theorem Good.chunk (h : Good E S X t) {p ch c : Nat} (hx : (p, ch, c) ∈ X) : c < 64 ∧ cP S c p ∧ ch < cap c := by
  obtain ⟨h1, h2⟩ : c < 64 ∧ cP S c p := h.xs _ hx
  obtain ⟨us, hd, rl, h3, _⟩ := h.pg p c h1 h2
  have h4 := (h3.xs ch hx).1
  have h5 := h3.le
  exact ⟨h1, h2, by omega⟩
/-- The caller writes into a chunk that he has. -/
theorem Good.write (h : Good E S X t) {p ch c o : Nat} (hx : (p, ch, c) ∈ X) (ho : o < 8 * (c + 1)) (v : Int) : Good E { S with d := upd2 S.d (p / 8) (atC p ch (8 * (c + 1)) + o) v } X t := by
  obtain ⟨hc, hp, hch⟩ := h.chunk hx
  refine ⟨h.nb, ?_, fun c' hc' => ?_, fun c' hc' => ?_, h.hi, h.kind, h.bf, fun q c' hc' hq => ?_, h.xs, h.nd⟩
  · obtain ⟨n, h1, h2, h3⟩ := h.free
    exact ⟨n, h1, h2, (h3.frame rfl (fun _ _ => ⟨rfl, rfl⟩)).congr (fun _ => Iff.rfl)⟩
  · obtain ⟨n, h3⟩ := h.part c' hc'
    exact ⟨n, (h3.frame rfl (fun _ _ => ⟨rfl, rfl⟩)).congr (fun _ => Iff.rfl)⟩
  · obtain ⟨l, h1, h2, h3, h4⟩ := h.cls c' hc'
    exact ⟨l, h1, fun q => (h2 q).trans Iff.rfl, h3, h4⟩
  · have hq' : cP S c' q := hq
    obtain ⟨us, hd, rl, h1, h2⟩ := h.pg q c' hc' hq'
    have hle := h1.le
    refine ⟨us, hd, rl, ⟨h1.eu, h1.eh, h1.le, h1.er, Chain.frame2 rl (fun a ha => ?_) h1.ch, h1.nd, h1.lt, h1.xs, h1.sum, h1.cnt⟩, h2⟩
    have hal := h1.lt a ha
    have hne : q = p → c' = c ∧ a ≠ ch := fun e => by
      subst e
      obtain rfl : c' = c := Int.ofNat.inj (hq'.2.symm.trans hp.2)
      exact ⟨rfl, fun e => (h1.xs ch hx).2 (e ▸ ha)⟩
    exact ⟨upd2_other _ _ _ _ _ _ (disj (o := 0) (e := o) hc hc' hch (by omega) (by omega) ho hne (Nat.add_zero _).symm rfl), upd2_other _ _ _ _ _ _ (disj (o := 1) (e := o) hc hc' hch (by omega) (by omega) ho hne rfl rfl)⟩
end

theorem Shop.perm {U : Nat → Prop} {A : Ad} {S : St} {Y Z : List Item} {t : Nat} {w : World} (h : Shop U A S Y t w) (hp : Y.Perm Z) : Shop U A S Z t w :=
  ⟨h.r, h.mu, h.good.perm (hp.map key), fun y hy => h.data y (hp.mem_iff.2 hy)⟩

/-- The chunk that is being filled: its first k bytes are tg. -/
structure Fill (U : Nat → Prop) (A : Ad) (S : St) (Y : List Item) (t : Nat) (w : World) (p ch c k tg : Nat) : Prop where
  r : R U A S w
  mu : S.w 1 = 0
  good : Good No S ((p, ch, c) :: Y.map key) t
  data : ∀ y, y ∈ Y → Data S y
  fill : ∀ o, o < k → S.d (p / 8) (atC p ch (8 * (c + 1)) + o) = (tg : Int)
section
variable {U : Nat → Prop} {A : Ad} {S : St} {Y : List Item} {t : Nat} {w : World} {p ch c k tg : Nat}
theorem Fill.at (h : Fill U A S Y t w p ch c k tg) : c < 64 ∧ Live S p ∧ ch < cap c ∧ ch * (8 * (c + 1)) + 8 * (c + 1) ≤ 16384 ∧ atC p ch (8 * (c + 1)) + 8 * (c + 1) ≤ K := by
  obtain ⟨hc, hp, hch⟩ := h.good.chunk (p := p) (ch := ch) (c := c) (by simp)
  have b1 := cap_bounds c hc
  have m1 := Nat.mul_le_mul_right (8 * (c + 1)) (show ch + 1 ≤ cap c by omega)
  rw [Nat.add_mul] at m1
  refine ⟨hc, hp.1, hch, by omega, ?_⟩
  unfold atC K
  omega
theorem Fill.cell (h : Fill U A S Y t w p ch c k tg) (hk : k < 8 * (c + 1)) : Has w ⟨A.db (p / 8), atC p ch (8 * (c + 1)) + k, none⟩ (.int .u8 (S.d (p / 8) (atC p ch (8 * (c + 1)) + k))) := by
  obtain ⟨_, hl, _, _, hK⟩ := h.at
  exact h.r.dat (p / 8) hl.1 hl.2 _ (by omega)
theorem Fill.set (h : Fill U A S Y t w p ch c k tg) (hk : k < 8 * (c + 1)) : ∃ S', Fill U A S' Y t (w.setCell ⟨A.db (p / 8), atC p ch (8 * (c + 1)) + k, none⟩ (.int .u8 (tg : Int))) p ch c (k + 1) tg := by
  obtain ⟨hc, hl, hch, _, hK⟩ := h.at
  refine ⟨_, h.r.setD hl.1 hl.2 (j := atC p ch (8 * (c + 1)) + k) (by omega) (tg : Int), h.mu, h.good.write (by simp) hk _, fun y hy o ho => ?_, fun o ho => ?_⟩
  · have hy' : (y.1, y.2.1, y.2.2.1) ∈ Y.map key := List.mem_map_of_mem (f := key) hy
    obtain ⟨hc', hp', hch'⟩ := h.good.chunk (p := y.1) (ch := y.2.1) (c := y.2.2.1) (by simp [hy'])
    have hp := (h.good.chunk (p := p) (ch := ch) (c := c) (by simp)).2.1
    have hnd := List.nodup_cons.1 h.good.nd
    refine (upd2_other _ _ _ _ _ _ (disj (o := o) (e := k) hc hc' hch hch' ho hk (fun e => ?_) rfl rfl)).trans (h.data y hy o ho)
    have e2 : y.2.2.1 = c := by
      have h1 := hp'.2
      rw [e] at h1
      exact Int.ofNat.inj (h1.symm.trans hp.2)
    refine ⟨e2, fun e3 => hnd.1 ?_⟩
    rw [e, e3, e2] at hy'
    exact hy'
  · by_cases e : o = k
    · subst e
      exact upd2_same _ _ _ _
    · exact (upd2_other _ _ _ _ _ _ (by omega)).trans (h.fill o (by omega))
theorem Fill.keep (h : Fill U A S Y t w p ch c k tg) {w0 : World} (hk : Keep U w0 w) (o : Nat) (v : Value) : Keep U w0 (w.setCell ⟨A.db (p / 8), o, none⟩ v) :=
  hk.set (a := ⟨A.db (p / 8), o, none⟩) (h.r.nD _ h.at.2.1.1 h.at.2.1.2) v
theorem Fill.done (h : Fill U A S Y t w p ch c k tg) (hk : k = 8 * (c + 1)) : Shop U A S (Y ++ [(p, ch, c, tg)]) t w := by
  subst hk
  refine Shop.perm (Y := (p, ch, c, tg) :: Y) ⟨h.r, h.mu, h.good, fun y hy => ?_⟩ (List.perm_append_singleton _ _).symm
  rw [List.mem_cons] at hy
  rcases hy with rfl | hy
  · exact h.fill
  · exact h.data y hy
end

/-! ### The slices -/
def plV (y : Item) : Value := .int .u64 ((y.1 * 16384 + y.2.1 * (8 * (y.2.2.1 + 1)) : Nat) : Int)
def szV (y : Item) : Value := .int .i64 ((8 * (y.2.2.1 + 1) : Nat) : Int)
def tgV (y : Item) : Value := .int .u8 (y.2.2.2 : Int)
structure Rw (B : Nat) (U : Nat → Prop) (e : TypeId) (v : Value) (xs : List Value) (w : World) : Prop where
  own : w.ownsRow B e 1 v xs.length xs
  us : ∀ g, v.ownBlock = some g → U g
def Apt (v v' : Value) : Prop := ∀ g, v.ownBlock = some g → v'.ownBlock ≠ some g
def Ux (U : Nat → Prop) (w w2 : World) : Nat → Prop := fun k => U k ∨ (w.heap.size ≤ k ∧ k < w2.heap.size)
structure Desk (B : Nat) (W : World) (v4 v5 v6 : Value) (x4 x5 x6 : List Value) (U : Nat → Prop) (w : World) : Prop where
  low : ∀ k, k < B → U k
  keep : Keep (fun k => k < B) W w
  size : B ≤ w.heap.size
  r4 : Rw B U 25 v4 x4 w
  r5 : Rw B U 3 v5 x5 w
  r6 : Rw B U 5 v6 x6 w
  d45 : Apt v4 v5
  d46 : Apt v4 v6
  d56 : Apt v5 v6

theorem Keep.sub {U V : Nat → Prop} {w w' : World} (h : Keep U w w') (hUV : ∀ k, V k → U k) : Keep V w w' := ⟨h.os, h.tape, h.output, h.size, fun k hk => h.blk k (hUV k hk)⟩
theorem own_block {w w' : World} {B e : Nat} {v : Value} {n : Nat} {xs : List Value} (h : w.ownsRow B e 1 v n xs) (hb : ∀ g, v.ownBlock = some g → w'.heap[g]? = w.heap[g]?) : w'.ownsRow B e 1 v n xs := by
  refine ⟨h.1, ?_⟩
  rcases h.2 with hn | ⟨g, cap, cur, rfl, hB, hg, rest⟩
  · exact .inl hn
  · exact .inr ⟨g, cap, cur, rfl, hB, (hb g rfl).trans hg, rest⟩
theorem Apt.symm {v v' : Value} (h : Apt v v') : Apt v' v := fun g h1 h2 => h g h2 h1
theorem Rw.keep {B : Nat} {U : Nat → Prop} {e : TypeId} {v : Value} {xs : List Value} {w w' : World} (h : Rw B U e v xs w) (hK : Keep U w w') : Rw B U e v xs w' :=
  ⟨own_block h.own (fun g hg => hK.blk g (h.us g hg)), h.us⟩
theorem Rw.grown {B : Nat} {U : Nat → Prop} {e : TypeId} {v v0 : Value} {xs : List Value} {w w2 : World} (h : Rw B U e v xs w) (hg : w.grownBy w2 v0.ownBlock) (ha : Apt v0 v) : Rw B (Ux U w w2) e v xs w2 :=
  ⟨own_block h.own (fun g hv => hg.block g (h.own.lt g hv).2 (fun e => ha g e.symm hv)), fun g hv => .inl (h.us g hv)⟩
theorem Desk.kept {B : Nat} {W : World} {v4 v5 v6 : Value} {x4 x5 x6 : List Value} {U : Nat → Prop} {w w' : World} (h : Desk B W v4 v5 v6 x4 x5 x6 U w) (hK : Keep U w w') : Desk B W v4 v5 v6 x4 x5 x6 U w' :=
  ⟨h.low, h.keep.trans (hK.sub h.low), Nat.le_trans h.size hK.size, h.r4.keep hK, h.r5.keep hK, h.r6.keep hK, h.d45, h.d46, h.d56⟩
theorem keep_grown {B : Nat} {W w w2 : World} {v : Value} (hk : Keep (fun k => k < B) W w) (hs : B ≤ w.heap.size) (hg : w.grownBy w2 v.ownBlock) (hv : ∀ g, v.ownBlock = some g → B ≤ g) : Keep (fun k => k < B) W w2 :=
  hk.trans ⟨hg.os, hg.tape, hg.output, hg.size, fun k hk => hg.block k (by omega) (fun e => by have := hv k e.symm; omega)⟩
theorem Shop.grown {U : Nat → Prop} {A : Ad} {S : St} {Y : List Item} {t : Nat} {w w2 : World} {row : Option Nat} (h : Shop U A S Y t w) (hg : w.grownBy w2 row) (hr : ∀ g, row = some g → U g) : Shop (Ux U w w2) A S Y t w2 := by
  refine ⟨?_, h.mu, h.good, h.data⟩
  have r1 : R U A S w2 := h.r.frame hg.size (fun k hk hlt => hg.block k hlt (fun e => hk (hr k e.symm)))
  exact r1.user (w0 := w) (fun k hk => hk.elim .inl (fun h => .inr h.1)) (fun k hk => hk.elim (fun h1 => Nat.lt_of_lt_of_le (h.r.ub k h1) hg.size) (fun h => h.2)) h.r
section
variable {B : Nat} {W : World} {v4 v5 v6 : Value} {x4 x5 x6 : List Value} {U : Nat → Prop} {w w2 : World} {g n cap : Nat} {x : Value}
theorem us_new {U : Nat → Prop} {v : Value} (hu : ∀ g, v.ownBlock = some g → U g) (hat : v.ownBlock = some g ∨ w.heap.size ≤ g) (hlt : g < w2.heap.size) : ∀ g', (Value.slice (some ⟨g, 0, none⟩) n cap).ownBlock = some g' → Ux U w w2 g' := fun g' hg' => by
  obtain rfl : g = g' := by simpa [Value.ownBlock] using hg'
  exact hat.elim (fun h => .inl (hu _ h)) (fun h => .inr ⟨h, hlt⟩)
theorem apt_new {e : TypeId} {v v' : Value} {xs : List Value} (ha : Apt v v') (hr : Rw B U e v' xs w) (hat : v.ownBlock = some g ∨ w.heap.size ≤ g) : Apt (.slice (some ⟨g, 0, none⟩) n cap) v' := fun g' hg' h2 => by
  obtain rfl : g = g' := by simpa [Value.ownBlock] using hg'
  rcases hat with h | h
  · exact ha _ h h2
  · have := (hr.own.lt _ h2).2
    omega
theorem Desk.app4 (h : Desk B W v4 v5 v6 x4 x5 x6 U w) (hg : w.grownBy w2 v4.ownBlock) (hown : w2.ownsRow B 25 1 (.slice (some ⟨g, 0, none⟩) n cap) n (x4 ++ [x])) (hn : n = (x4 ++ [x]).length) (hat : v4.ownBlock = some g ∨ w.heap.size ≤ g) (hlt : g < w2.heap.size) :
    Desk B W (.slice (some ⟨g, 0, none⟩) n cap) v5 v6 (x4 ++ [x]) x5 x6 (Ux U w w2) w2 :=
  ⟨fun k hk => .inl (h.low k hk), keep_grown h.keep h.size hg (fun g hv => (h.r4.own.lt g hv).1), Nat.le_trans h.size hg.size, ⟨hn ▸ hown, us_new h.r4.us hat hlt⟩, h.r5.grown hg h.d45, h.r6.grown hg h.d46, apt_new h.d45 h.r5 hat, apt_new h.d46 h.r6 hat, h.d56⟩
theorem Desk.app5 (h : Desk B W v4 v5 v6 x4 x5 x6 U w) (hg : w.grownBy w2 v5.ownBlock) (hown : w2.ownsRow B 3 1 (.slice (some ⟨g, 0, none⟩) n cap) n (x5 ++ [x])) (hn : n = (x5 ++ [x]).length) (hat : v5.ownBlock = some g ∨ w.heap.size ≤ g) (hlt : g < w2.heap.size) :
    Desk B W v4 (.slice (some ⟨g, 0, none⟩) n cap) v6 x4 (x5 ++ [x]) x6 (Ux U w w2) w2 :=
  ⟨fun k hk => .inl (h.low k hk), keep_grown h.keep h.size hg (fun g hv => (h.r5.own.lt g hv).1), Nat.le_trans h.size hg.size, h.r4.grown hg h.d45.symm, ⟨hn ▸ hown, us_new h.r5.us hat hlt⟩, h.r6.grown hg h.d56, (apt_new h.d45.symm h.r4 hat).symm, h.d46, apt_new h.d56 h.r6 hat⟩
theorem Desk.app6 (h : Desk B W v4 v5 v6 x4 x5 x6 U w) (hg : w.grownBy w2 v6.ownBlock) (hown : w2.ownsRow B 5 1 (.slice (some ⟨g, 0, none⟩) n cap) n (x6 ++ [x])) (hn : n = (x6 ++ [x]).length) (hat : v6.ownBlock = some g ∨ w.heap.size ≤ g) (hlt : g < w2.heap.size) :
    Desk B W v4 v5 (.slice (some ⟨g, 0, none⟩) n cap) x4 x5 (x6 ++ [x]) (Ux U w w2) w2 :=
  ⟨fun k hk => .inl (h.low k hk), keep_grown h.keep h.size hg (fun g hv => (h.r6.own.lt g hv).1), Nat.le_trans h.size hg.size, h.r4.grown hg h.d46.symm, h.r5.grown hg h.d56.symm, ⟨hn ▸ hown, us_new h.r6.us hat hlt⟩, h.d45, (apt_new h.d46.symm h.r4 hat).symm, (apt_new h.d56.symm h.r5 hat).symm⟩
theorem grown_via {row : Option Nat} (o : Obj) (hg : (w.alloc o).grownBy w2 row) : w.grownBy w2 row :=
  ⟨hg.os, hg.tape, hg.output, by have := hg.size; rw [World.size_alloc] at this; omega, fun k hk hne => (hg.block k (by rw [World.size_alloc]; omega) hne).trans (Below.heap_alloc _ _ _ hk)⟩
end

theorem grown_set (w : World) (g j : Nat) (u : Value) : w.grownBy (w.setCell ⟨g, j, none⟩ u) (some g) :=
  ⟨rfl, rfl, rfl, by simp [World.setCell], fun k _ hk => Below.heap_setCell _ _ _ _ (fun e => hk (by rw [e]))⟩
theorem Rw.set {B : Nat} {U : Nat → Prop} {e : TypeId} {xs : List Value} {w : World} {g n cap : Nat} (h : Rw B U e (.slice (some ⟨g, 0, none⟩) n cap) xs w) (hn : n = xs.length) (j : Nat) (u : Value) : Rw B U e (.slice (some ⟨g, 0, none⟩) n cap) (xs.set j u) (w.setCell ⟨g, j, none⟩ u) := by
  subst hn
  refine ⟨?_, h.us⟩
  have := (h.own.stored j u).1
  rwa [List.length_set]
theorem Rw.off {B : Nat} {U : Nat → Prop} {e : TypeId} {v : Value} {xs : List Value} {w : World} {g n cap : Nat} (h : Rw B U e v xs w) (ha : Apt (.slice (some ⟨g, 0, none⟩) n cap) v) (j : Nat) (u : Value) : Rw B U e v xs (w.setCell ⟨g, j, none⟩ u) :=
  ⟨own_block h.own (fun g' hv => Below.heap_setCell _ _ _ _ (fun e => ha g rfl ((show g' = g from e) ▸ hv))), h.us⟩
theorem Rw.cut {B : Nat} {U : Nat → Prop} {e : TypeId} {xs : List Value} {w : World} {g n cap : Nat} (h : Rw B U e (.slice (some ⟨g, 0, none⟩) n cap) xs w) (hn : n = xs.length) (m : Nat) (hm : m ≤ n) : Rw B U e (.slice (some ⟨g, 0, none⟩) m cap) (xs.take m) w := by
  subst hn
  refine ⟨⟨by simp, .inr ?_⟩, h.us⟩
  rcases h.own.2 with ⟨h', _⟩ | ⟨g', cap', cur, h', hB, hg, h1, h2, h3, h4⟩
  · simp at h'
  · simp only [Value.slice.injEq, Option.some.injEq, Addr.mk.injEq, and_true, true_and] at h'
    obtain ⟨rfl, rfl⟩ := h'
    have el : (xs.take m).length = m := by rw [List.length_take]; omega
    refine ⟨g, cap, cur, by rw [el], hB, hg, by omega, h2, h3, ?_⟩
    rw [el, ← h4, List.take_take]
    congr 1
    omega
section
variable {B : Nat} {W : World} {v4 v5 v6 : Value} {x4 x5 x6 : List Value} {U : Nat → Prop} {w : World} {g n cap : Nat}
theorem keep_set {B : Nat} {W w : World} {v : Value} {g : Nat} (hk : Keep (fun k => k < B) W w) (hB : B ≤ g) (j : Nat) : Keep (fun k => k < B) W (w.setCell ⟨g, j, none⟩ v) := hk.set (a := ⟨g, j, none⟩) (by show ¬ g < B; omega) v
theorem Desk.set4 (h : Desk B W (.slice (some ⟨g, 0, none⟩) n cap) v5 v6 x4 x5 x6 U w) (hn : n = x4.length) (j : Nat) (u : Value) : Desk B W (.slice (some ⟨g, 0, none⟩) n cap) v5 v6 (x4.set j u) x5 x6 U (w.setCell ⟨g, j, none⟩ u) :=
  ⟨h.low, keep_set h.keep (h.r4.own.lt g rfl).1 j, by simpa [World.setCell] using h.size, h.r4.set hn j u, h.r5.off h.d45 j u, h.r6.off h.d46 j u, h.d45, h.d46, h.d56⟩
theorem Desk.set5 (h : Desk B W v4 (.slice (some ⟨g, 0, none⟩) n cap) v6 x4 x5 x6 U w) (hn : n = x5.length) (j : Nat) (u : Value) : Desk B W v4 (.slice (some ⟨g, 0, none⟩) n cap) v6 x4 (x5.set j u) x6 U (w.setCell ⟨g, j, none⟩ u) :=
  ⟨h.low, keep_set h.keep (h.r5.own.lt g rfl).1 j, by simpa [World.setCell] using h.size, h.r4.off h.d45.symm j u, h.r5.set hn j u, h.r6.off h.d56 j u, h.d45, h.d46, h.d56⟩
theorem Desk.set6 (h : Desk B W v4 v5 (.slice (some ⟨g, 0, none⟩) n cap) x4 x5 x6 U w) (hn : n = x6.length) (j : Nat) (u : Value) : Desk B W v4 v5 (.slice (some ⟨g, 0, none⟩) n cap) x4 x5 (x6.set j u) U (w.setCell ⟨g, j, none⟩ u) :=
  ⟨h.low, keep_set h.keep (h.r6.own.lt g rfl).1 j, by simpa [World.setCell] using h.size, h.r4.off h.d46.symm j u, h.r5.off h.d56.symm j u, h.r6.set hn j u, h.d45, h.d46, h.d56⟩
end
theorem Shop.own {U : Nat → Prop} {A : Ad} {S : St} {Y : List Item} {t : Nat} {w : World} (h : Shop U A S Y t w) {a : Addr} (ha : U a.block) (v : Value) : Shop U A S Y t (w.setCell a v) :=
  ⟨h.r.frame (by simp [World.setCell]) (fun k hk _ => Below.heap_setCell _ _ _ _ (fun e => hk (e ▸ ha))), h.mu, h.good, h.data⟩

/-! ### The swap -/
theorem swap_perm (Y : List Item) (i : Nat) (y z : Item) (hi : Y[i]? = some y) (hz : Y[Y.length - 1]? = some z) : Y.Perm (y :: (Y.set i z).take (Y.length - 1)) := by
  have hil : i < Y.length := (List.getElem?_eq_some_iff.1 hi).1
  have hY : Y = Y.take (Y.length - 1) ++ [z] := by
    have h1 := List.take_append_drop (Y.length - 1) Y
    have h2 : Y.drop (Y.length - 1) = [z] := by
      obtain ⟨hl, he⟩ := List.getElem?_eq_some_iff.1 hz
      rw [List.drop_eq_getElem_cons hl, he]
      congr 1
      exact List.drop_eq_nil_of_le (by omega)
    rw [h2] at h1
    exact h1.symm
  rw [List.take_set]
  generalize hL : Y.take (Y.length - 1) = L at hY ⊢
  have hLl : L.length = Y.length - 1 := by rw [← hL, List.length_take]; omega
  by_cases e : i = Y.length - 1
  · have ey : y = z := by
      rw [e, hz] at hi
      exact (Option.some.inj hi).symm
    rw [List.set_eq_of_length_le (by omega), ey]
    exact (List.Perm.of_eq hY).trans (List.perm_append_singleton _ _)
  · have hiL : i < L.length := by omega
    have hLi : L[i]? = some y := by
      rw [hY, List.getElem?_append_left hiL] at hi
      exact hi
    obtain ⟨_, hye⟩ := List.getElem?_eq_some_iff.1 hLi
    have e1 : L = L.take i ++ y :: L.drop (i + 1) := by
      rw [← hye, List.getElem_cons_drop, List.take_append_drop]
    have e2 : L.set i z = L.take i ++ z :: L.drop (i + 1) := by
      rw [List.set_eq_take_append_cons_drop, if_pos hiL]
    rw [e2]
    refine (List.Perm.of_eq hY).trans ((List.perm_append_singleton _ _).trans ?_)
    have h9 : ∀ a b : List Item, (z :: (a ++ y :: b)).Perm (y :: (a ++ z :: b)) := fun a b =>
      ((List.perm_middle (a := y) (l₁ := a) (l₂ := b)).cons z).trans ((List.Perm.swap y z (a ++ b)).trans ((List.perm_middle (a := z) (l₁ := a) (l₂ := b)).symm.cons y))
    have h10 := h9 (L.take i) (L.drop (i + 1))
    rw [← e1] at h10
    exact h10

/-! ### The count -/
def cntP (P : Nat → Bool) : Nat → Nat
  | 0 => 0
  | k + 1 => cntP P k + if P k then 1 else 0
theorem cntP_congr {P Q : Nat → Bool} (n : Nat) (h : ∀ k, k < n → P k = Q k) : cntP P n = cntP Q n := by
  induction n with
  | zero => rfl
  | succ k ih =>
    unfold cntP
    rw [ih (fun j hj => h j (by omega)), h k (by omega)]
theorem cntP_up {P Q : Nat → Bool} (n i : Nat) (hi : i < n) (h0 : P i = false) (h1 : Q i = true) (h : ∀ k, k ≠ i → Q k = P k) : cntP Q n = cntP P n + 1 := by
  induction n with
  | zero => omega
  | succ k ih =>
    unfold cntP
    by_cases e : i = k
    · subst e
      rw [h0, h1, cntP_congr (P := Q) (Q := P) i (fun j hj => h j (by omega))]
      simp
    · rw [ih (by omega), h k (fun e2 => e e2.symm)]
      omega
theorem cntP_none {P : Nat → Bool} (n k : Nat) (h : ∀ j, n ≤ j → j < n + k → P j = false) : cntP P (n + k) = cntP P n := by
  induction k with
  | zero => rfl
  | succ k ih =>
    show cntP P (n + k) + (if P (n + k) then 1 else 0) = _
    rw [ih (fun j h1 h2 => h j h1 (by omega)), h (n + k) (by omega) (by omega)]
    rfl
theorem cntP_le (P : Nat → Bool) (n : Nat) : cntP P n ≤ n := by
  induction n with
  | zero => exact Nat.le_refl _
  | succ k ih =>
    unfold cntP
    split <;> omega
def sizeIn (Y : List Item) (c : Nat) : Bool := Y.any (fun y => y.2.2.1 == c)
theorem cnt_cntP (S : St) (n : Nat) : cnt S n = cntP (fun k => decide (0 < S.w (91 + k))) n := by
  induction n with
  | zero => rfl
  | succ k ih =>
    unfold cnt cntP
    rw [ih]
    simp
theorem cnt_good {S : St} {Y : List Item} {t : Nat} (h : Good No S (Y.map key) t) : cnt S 88 = cntP (sizeIn Y) 64 := by
  rw [cnt_cntP, show (88 : Nat) = 64 + 24 from rfl, cntP_none 64 24 (fun j h1 h2 => by rw [h.hi j h1 (by omega)]; rfl)]
  refine cntP_congr 64 (fun c hc => ?_)
  obtain ⟨l, h1, h2, h3, _⟩ := h.cls c hc
  rw [Bool.eq_iff_iff]
  unfold sizeIn
  rw [h3, List.any_eq_true, decide_eq_true_iff]
  refine ⟨fun hp => ?_, fun ⟨y, hy, he⟩ => ?_⟩
  · cases l with
    | nil => simp at hp
    | cons q r =>
      have hq := (h2 q).1 (by simp)
      obtain ⟨us, hd, rl, g1, g2⟩ := h.pg q c hc hq
      have hpos := g2 id
      rw [g1.cnt] at hpos
      obtain ⟨x, hx, hxq⟩ := List.countP_pos_iff.1 hpos
      obtain ⟨y, hy, rfl⟩ := List.mem_map.1 hx
      have hxq' : y.1 = q := by simpa [key] using hxq
      refine ⟨y, hy, ?_⟩
      have g3 : cP S y.2.2.1 y.1 := (h.xs _ hx).2
      have e : getP S q 0 = (y.2.2.1 : Int) := hxq' ▸ g3.2
      have : y.2.2.1 = c := Int.ofNat.inj (e.symm.trans hq.2)
      simpa using this
  · have g3 : cP S y.2.2.1 y.1 := (h.xs (key y) (List.mem_map_of_mem (f := key) hy)).2
    have e : y.2.2.1 = c := by simpa using he
    rw [e] at g3
    have := List.length_pos_of_mem ((h2 y.1).2 g3)
    omega

end Go.Proofs.Ybulkcqic
