/-
  freePage.
-/
import Derived.Test.YbulkcqicLink
import Derived.Deep.MidRow
import Derived.Laws.Rows
import Derived.Deep.OwnRows
import Derived.Laws.OwnMore
namespace Go.Proofs.Ybulkcqic
open Go.RowKit

theorem Yba.info5 : (Yba.prog.info? 5).map (fun i => (i.zero, i.size, i.bytes)) = some (some (.int .u8 0), 1, 1) := by kernel_rfl
theorem Yba.info67 : (Yba.prog.info? 67).map (fun i => (i.zero, i.size, i.bytes)) = some (some (.pointer none), 1, 8) := by kernel_rfl
theorem Yba.size63 : (Yba.prog.info? 63).map (·.size) = some 6 := by kernel_rfl

section
variable {U : Nat → Prop} {A : Ad} {S : St} {w : World}

/-- There is a free page. -/
theorem free_there (h : R U A S w) (hf : S.w 179 ≠ -1) :
    Calls Yba.prog 14 #[.pointer (some ⟨A.sb, 0, none⟩)] w fun e w' => e = .returned (.int .i32 (S.w 179)) ∧ w' = w := by
  obtain ⟨a1, b1⟩ := h.hd (i := 179) (by omega) (by omega)
  have t0 : (S.w 179 != -1) = true := by simpa using hf
  go_enter Yba.func14, Yba.ntmps14
  go_wp2
  go_ret
  exact ⟨rfl, rfl⟩

/-- The cells of a block whose first k pages are laid. -/
def pageI (f : Nat) : Int := if f = 0 then 255 else if f ≤ 3 then 0 else -1
def laidB (k j : Nat) : Int := if j = 49 then 8 else if (j - 1) / 6 < k then pageI ((j - 1) % 6) else 0

structure Fresh (w0 : World) (k : Nat) (wx : World) : Prop where
  low : Below w0.heap.size w0 wx
  size : w0.heap.size + 2 ≤ wx.heap.size
  dat : ∀ o, o < K → Has wx ⟨w0.heap.size, o, none⟩ (.int .u8 0)
  blk0 : Has wx ⟨w0.heap.size + 1, 0, none⟩ (.slice (some ⟨w0.heap.size, 0, none⟩) K K)
  blk : ∀ j, 0 < j → j < 50 → Has wx ⟨w0.heap.size + 1, j, none⟩ (.int (bk j) (laidB k j))

theorem heap_alloc_at {w : World} {k : Nat} {o x : Obj} (h : w.heap[k]? = some x) : (w.alloc o).heap[k]? = some x :=
  (Below.heap_alloc w o k (lt_of_block h)).trans h
theorem has_own (w : World) (cs : Array Value) (T : TypeId) (i : Nat) (v : Value) (h : cs[i]? = some v) : Has (w.alloc (.cells cs T)) ⟨w.heap.size, i, none⟩ v := by
  have hb : (w.alloc (.cells cs T)).heap[w.heap.size]? = some (.cells cs T (0, 0)) := heap_alloc_new w _
  exact ⟨by simp only [World.cell?, hb]; simpa using h, by simp only [World.frozen?, hb]; simp⟩

theorem make_run (w : World) : (Instr.makeSlice 49 (.int .i64 131072) (.int .i64 131072)).run Yba.prog w = .ok (.slice (some ⟨w.heap.size, 0, none⟩) K K) (w.alloc (.cells (madeCells #[.int .u8 0] K) 5)) :=
  run_make_row' (P := Yba.prog) 49 5 (.int .u8 0) 1 Yba.underlying49 Yba.info5 rfl .i64 .i64 K (by unfold K; omega) (by unfold K; omega) w

abbrev blankA (s : Value) : Array Value := #[s, .int .u8 0, .int .u16 0, .int .u16 0, .int .u16 0, .int .i32 0, .int .i32 0, .int .u8 0, .int .u16 0, .int .u16 0, .int .u16 0, .int .i32 0, .int .i32 0, .int .u8 0, .int .u16 0, .int .u16 0, .int .u16 0, .int .i32 0, .int .i32 0, .int .u8 0, .int .u16 0, .int .u16 0, .int .u16 0, .int .i32 0, .int .i32 0, .int .u8 0, .int .u16 0, .int .u16 0, .int .u16 0, .int .i32 0, .int .i32 0, .int .u8 0, .int .u16 0, .int .u16 0, .int .u16 0, .int .i32 0, .int .i32 0, .int .u8 0, .int .u16 0, .int .u16 0, .int .u16 0, .int .i32 0, .int .i32 0, .int .u8 0, .int .u16 0, .int .u16 0, .int .u16 0, .int .i32 0, .int .i32 0, .int .i64 8]
theorem blank_at (s : Value) (j : Nat) (h0 : 0 < j) (h1 : j < 50) : (blankA s)[j]? = some (.int (bk j) (laidB 0 j)) :=
  match j, h0, h1 with
  | 1, _, _ => rfl
  | 2, _, _ => rfl
  | 3, _, _ => rfl
  | 4, _, _ => rfl
  | 5, _, _ => rfl
  | 6, _, _ => rfl
  | 7, _, _ => rfl
  | 8, _, _ => rfl
  | 9, _, _ => rfl
  | 10, _, _ => rfl
  | 11, _, _ => rfl
  | 12, _, _ => rfl
  | 13, _, _ => rfl
  | 14, _, _ => rfl
  | 15, _, _ => rfl
  | 16, _, _ => rfl
  | 17, _, _ => rfl
  | 18, _, _ => rfl
  | 19, _, _ => rfl
  | 20, _, _ => rfl
  | 21, _, _ => rfl
  | 22, _, _ => rfl
  | 23, _, _ => rfl
  | 24, _, _ => rfl
  | 25, _, _ => rfl
  | 26, _, _ => rfl
  | 27, _, _ => rfl
  | 28, _, _ => rfl
  | 29, _, _ => rfl
  | 30, _, _ => rfl
  | 31, _, _ => rfl
  | 32, _, _ => rfl
  | 33, _, _ => rfl
  | 34, _, _ => rfl
  | 35, _, _ => rfl
  | 36, _, _ => rfl
  | 37, _, _ => rfl
  | 38, _, _ => rfl
  | 39, _, _ => rfl
  | 40, _, _ => rfl
  | 41, _, _ => rfl
  | 42, _, _ => rfl
  | 43, _, _ => rfl
  | 44, _, _ => rfl
  | 45, _, _ => rfl
  | 46, _, _ => rfl
  | 47, _, _ => rfl
  | 48, _, _ => rfl
  | 49, _, _ => rfl
  | j + 50, _, h => absurd h (by omega)

theorem fresh_made (w : World) : Fresh w 0 ((w.alloc (.cells (madeCells #[.int .u8 0] K) 5)).alloc (.cells (blankA (.slice (some ⟨w.heap.size, 0, none⟩) K K)) 66)) := by
  refine ⟨((Below.refl _ _).alloc (Nat.le_refl _) _).alloc (by simp) _, by simp, fun o ho => ?_, ?_, fun j h0 h1 => ?_⟩
  · refine (has_own w _ 5 o _ ?_).alloc _
    rw [← Array.getElem?_toList, toList_madeCells_one, List.getElem?_replicate, if_pos ho]
  · have := has_own (w.alloc (.cells (madeCells #[.int .u8 0] K) 5)) (blankA (.slice (some ⟨w.heap.size, 0, none⟩) K K)) 66 0 _ rfl
    rwa [World.size_alloc] at this
  · have := has_own (w.alloc (.cells (madeCells #[.int .u8 0] K) 5)) (blankA (.slice (some ⟨w.heap.size, 0, none⟩) K K)) 66 j _ (blank_at _ j h0 h1)
    rwa [World.size_alloc] at this

theorem Fresh.there {w0 wx : World} {k : Nat} (h : Fresh w0 k wx) (hk : k < 8) : wx.there (w0.heap.size + 1) (1 + k * 6) 6 := fun j hj => by
  obtain ⟨a, b⟩ := h.blk (1 + k * 6 + j) (by omega) (by omega)
  exact ⟨by rw [a]; rfl, b⟩

abbrev pageA : List Value := [.int .u8 255, .int .u16 0, .int .u16 0, .int .u16 0, .int .i32 (-1), .int .i32 (-1)]
theorem pageA_at (k j : Nat) (hk : k < 8) (hj : j < 6) : pageA[j]? = some (.int (bk (1 + k * 6 + j)) (laidB (k + 1) (1 + k * 6 + j))) := by
  have e1 : bk (1 + k * 6 + j) = pk j := bk_pk k j hk hj
  have e2 : laidB (k + 1) (1 + k * 6 + j) = pageI j := by
    unfold laidB
    have a : (1 + k * 6 + j - 1) % 6 = j := by omega
    rw [if_neg (by omega), if_pos (by omega), a]
  rw [e1, e2]
  match j, hj with
  | 0, _ => rfl
  | 1, _ => rfl
  | 2, _ => rfl
  | 3, _ => rfl
  | 4, _ => rfl
  | 5, _ => rfl
  | j + 6, h => exact absurd h (by omega)

theorem Fresh.page {w0 wx : World} {k : Nat} (h : Fresh w0 k wx) (hk : k < 8) : Fresh w0 (k + 1) (wx.setCells (w0.heap.size + 1) (1 + k * 6) pageA) := by
  have hth := h.there hk
  have out : ∀ {a : Addr} {v : Value}, Has wx a v → (a.block = w0.heap.size + 1 → a.off < 1 + k * 6 ∨ 1 + k * 6 + 6 ≤ a.off) → Has (wx.setCells (w0.heap.size + 1) (1 + k * 6) pageA) a v := fun {a v} ha hne =>
    ⟨(World.cell?_setCells_out _ pageA _ wx a (fun e _ => by simpa using hne e)).trans ha.1, by rw [World.frozen?_setCells]; exact ha.2⟩
  refine ⟨?_, ?_, fun o ho => out (h.dat o ho) (fun e => by simp at e), out h.blk0 (fun _ => by left; show 0 < _; omega), fun j h0 h1 => ?_⟩
  · exact ((((((h.low.setCell (p := ⟨w0.heap.size + 1, 1 + k * 6, none⟩) (by simp) _).setCell (p := ⟨w0.heap.size + 1, 1 + k * 6 + 1, none⟩) (by simp) _).setCell (p := ⟨w0.heap.size + 1, 1 + k * 6 + 1 + 1, none⟩) (by simp) _).setCell (p := ⟨w0.heap.size + 1, 1 + k * 6 + 1 + 1 + 1, none⟩) (by simp) _).setCell (p := ⟨w0.heap.size + 1, 1 + k * 6 + 1 + 1 + 1 + 1, none⟩) (by simp) _).setCell (p := ⟨w0.heap.size + 1, 1 + k * 6 + 1 + 1 + 1 + 1 + 1, none⟩) (by simp) _)
  · simpa [World.setCells, World.setCell] using h.size
  · by_cases hin : 1 + k * 6 ≤ j ∧ j < 1 + k * 6 + 6
    · obtain ⟨i, rfl⟩ : ∃ i, j = 1 + k * 6 + i := ⟨j - (1 + k * 6), by omega⟩
      have hi : i < 6 := by omega
      refine ⟨?_, by rw [World.frozen?_setCells]; exact (h.blk _ h0 h1).2⟩
      rw [World.cell?_setCells_in _ pageA _ wx (fun i hi => (hth i hi).1) i hi, ← pageA_at k i hk hi, List.getElem?_eq_getElem hi]
    · have e : laidB (k + 1) j = laidB k j := by
        unfold laidB
        by_cases e49 : j = 49
        · rw [if_pos e49, if_pos e49]
        · rw [if_neg e49, if_neg e49]
          by_cases hlo : (j - 1) / 6 < k
          · rw [if_pos (by omega), if_pos hlo]
          · rw [if_neg (by omega), if_neg hlo]
      rw [e]
      exact out (h.blk j h0 h1) (fun _ => by show j < _ ∨ _ ≤ j; omega)

theorem Fresh.frame {w0 wx wy : World} {k : Nat} (h : Fresh w0 k wx) (hb : Below (w0.heap.size + 2) wx wy) : Fresh w0 k wy := by
  have bl : ∀ {a : Addr} {v : Value}, Has wx a v → a.block < w0.heap.size + 2 → Has wy a v := fun {a v} ha hlt => ha.of_block (hb.block _ hlt)
  exact ⟨h.low.trans (hb.mono (by omega)), by have := hb.size; have := h.size; omega, fun o ho => bl (h.dat o ho) (by show w0.heap.size < _; omega), bl h.blk0 (by show w0.heap.size + 1 < _; omega), fun j h0 h1 => bl (h.blk j h0 h1) (by show w0.heap.size + 1 < _; omega)⟩

/-- The old pointers. -/
def ptrs (A : Ad) (S : St) : List Value := (List.range S.nb).map (ptrV A S)
theorem ptrs_len (A : Ad) (S : St) : (ptrs A S).length = S.nb := by simp [ptrs]
theorem ptrs_one (A : Ad) (S : St) : ∀ u ∈ ptrs A S, u.oneCell' = true := fun u hu => by
  obtain ⟨i, _, rfl⟩ := List.mem_map.1 hu
  rfl

theorem slice_of_own {w : World} {B : Nat} {v : Value} {n : Nat} {xs : List Value} (h : w.ownsRow B 67 1 v n xs) : ∃ a c, v = .slice a n c := by
  rcases h.2 with ⟨rfl, rfl⟩ | ⟨g, cap, cur, rfl, _⟩
  · exact ⟨none, 0, rfl⟩
  · exact ⟨_, _, rfl⟩

/-- Behind 'grown := append(..)'. -/
structure Grown (w0 : World) (ps : List Value) (v : Value) (gb : Nat) (wx : World) : Prop where
  fr : Fresh w0 8 wx
  ge : w0.heap.size + 2 ≤ gb
  box : wx.heap[gb]? = some (.cells #[v] 57 (0, 0))
  own : wx.ownsRow (w0.heap.size + 2) 67 1 v ps.length ps
  ne : v.ownBlock ≠ some gb

theorem own_base {w : World} {B B' e n : Nat} {v : Value} {xs : List Value} (hB : B' ≤ B) (h : w.ownsRow B e 1 v n xs) : w.ownsRow B' e 1 v n xs :=
  ⟨h.1, h.2.imp id (fun ⟨g, cap, cur, e1, e2, r⟩ => ⟨g, cap, cur, e1, Nat.le_trans hB e2, r⟩)⟩
theorem grown_of {w0 X : World} {ps : List Value} {v : Value} {B : Nat} (hF : Fresh w0 8 X) (hB : w0.heap.size + 2 ≤ B) (own : X.ownsRow B 67 1 v ps.length ps) : Grown w0 ps v X.heap.size (X.alloc (.cells #[v] 57)) :=
  ⟨hF.frame ((Below.refl _ _).alloc hF.size _), hF.size, heap_alloc_new X _, own_base hB (own.alloc _), fun e => by have := (own.lt _ e).2; omega⟩

/-- Behind the 'if': the new list of blocks. -/
structure Vec2 (w0 : World) (A : Ad) (S : St) (n gb ga cap nb2 : Nat) (wx : World) : Prop where
  fr : Fresh w0 8 wx
  geb : w0.heap.size + 2 ≤ gb
  gea : w0.heap.size + 2 ≤ ga
  ne : ga ≠ gb
  box : wx.heap[gb]? = some (.cells #[.slice (some ⟨ga, 0, none⟩) nb2 cap] 57 (0, 0))
  ptr : ∀ i, i < nb2 → Has wx ⟨ga, i, none⟩ (if i = n then .pointer (some ⟨w0.heap.size + 1, 0, none⟩) else ptrV A S i)
  len : nb2 = if n = S.nb then S.nb + 1 else S.nb
  cap : nb2 ≤ cap ∧ cap ≤ maxLen

theorem has_of_own {w : World} {B e n g c : Nat} {xs : List Value} (h : w.ownsRow B e 1 (.slice (some ⟨g, 0, none⟩) n c) n xs) (j : Nat) (hj : j < n) (u : Value) (hu : xs[j]? = some u) : Has w ⟨g, j, none⟩ u := by
  rcases h.2 with ⟨e, _⟩ | ⟨g', cap, cur, e1, _, hh, hc, hm, hs, ht⟩
  · cases e
  · obtain ⟨e2, _⟩ : g' = g ∧ cap = c := by simpa [eq_comm] using e1
    subst e2
    have hx : cur.toList[j]? = some u := by
      rw [← ht, List.getElem?_take, if_pos (by omega)] at hu
      exact hu
    exact ⟨by simp only [World.cell?, hh]; simpa using hx, by simp only [World.frozen?, hh]; simp⟩

theorem R.lw {U : Nat → Prop} {A : Ad} {S : St} {w : World} (h : R U A S w) {i : Nat} (h3 : 180 ≤ i) (hi : i < 182) : Has w ⟨A.sb, i, none⟩ (.int .i64 (S.w i)) := by
  have := h.slab i hi
  have e : wk i = .i64 := by unfold wk; rw [if_neg (by omega), if_neg (by omega)]
  rwa [slabV, if_neg (by omega), e] at this
theorem R.setLw {U : Nat → Prop} {A : Ad} {S : St} {w : World} (h : R U A S w) {i : Nat} (h3 : 180 ≤ i) (hi : i < 182) (v : Int) : R U A (setH S i v) (w.setCell ⟨A.sb, i, none⟩ (.int .i64 v)) := by
  have := h.setW (i := i) (by omega) hi v
  have e : wk i = .i64 := by unfold wk; rw [if_neg (by omega), if_neg (by omega)]
  rwa [e] at this

/-- A new block in place n. -/
def newS (S : St) (n : Nat) : St := { S with nb := if n = S.nb then S.nb + 1 else S.nb, live := upd S.live n true, b := fun i => if i = n then laidB 8 else S.b i, d := fun i => if i = n then fun _ => 0 else S.d i }
def newA (A : Ad) (W n gb ga cap : Nat) : Ad := { sb := A.sb, vb := gb, ab := ga, cap := cap, bb := upd A.bb n (W + 1), db := upd A.db n W, tag := fun k => if k = W then 4 + 2 * n else if k = W + 1 then 3 + 2 * n else if k = gb then 1 else if k = ga then 2 else A.tag k }

theorem newR {U : Nat → Prop} {A : Ad} {S : St} {w wx : World} {n gb ga cap nb2 : Nat} (h : R U A S w) (hn : n ≤ S.nb) (hnl : n < S.nb → S.live n = false) (hV : Vec2 w A S n gb ga cap nb2 wx) :
    R U (newA A w.heap.size n gb ga cap) (newS S n) (wx.setCell ⟨A.sb, 0, none⟩ (.pointer (some ⟨gb, 0, none⟩))) ∧ Keep U w (wx.setCell ⟨A.sb, 0, none⟩ (.pointer (some ⟨gb, 0, none⟩))) := by
  have hsb := (h.slab 0 (by omega)).lt
  have hW := hV.fr.size
  have hlo : ∀ k, k < w.heap.size → wx.heap[k]? = w.heap[k]? := hV.fr.low.block
  have ksz := hV.fr.low.size
  have tlow : ∀ k, k < w.heap.size → (newA A w.heap.size n gb ga cap).tag k = A.tag k := fun k hk => by
    have h1 := hV.geb
    have h2 := hV.gea
    show (if k = w.heap.size then _ else if k = w.heap.size + 1 then _ else if k = gb then _ else if k = ga then _ else A.tag k) = _
    rw [if_neg (by omega), if_neg (by omega), if_neg (by omega), if_neg (by omega)]
  have old : ∀ i, i < (newS S n).nb → i ≠ n → i < S.nb := fun i hi hne => by
    have hi' : i < if n = S.nb then S.nb + 1 else S.nb := hi
    split at hi' <;> omega
  have lv : ∀ i, i ≠ n → (newS S n).live i = S.live i := fun i hne => by simp [newS, upd, hne]
  have oh : ∀ {a : Addr} {v : Value}, Has w a v → a.block ≠ A.sb → Has (wx.setCell ⟨A.sb, 0, none⟩ (.pointer (some ⟨gb, 0, none⟩))) a v := fun {a v} ha hne =>
    (ha.of_block (hlo _ ha.lt)).set_other _ (ne_block (fun e => hne e.symm))
  have nh : ∀ {a : Addr} {v : Value}, Has wx a v → a.block ≠ A.sb → Has (wx.setCell ⟨A.sb, 0, none⟩ (.pointer (some ⟨gb, 0, none⟩))) a v := fun {a v} ha hne =>
    ha.set_other _ (ne_block (fun e => hne e.symm))
  have bne : ∀ i, i < S.nb → S.live i = true → A.bb i ≠ A.sb := fun i hi hl e => by have := h.tS; rw [← e, h.tB i hi hl] at this; omega
  have dne : ∀ i, i < S.nb → S.live i = true → A.db i ≠ A.sb := fun i hi hl e => by have := h.tS; rw [← e, h.tD i hi hl] at this; omega
  have hgeb := hV.geb
  have hgea := hV.gea
  have bbn : (newA A w.heap.size n gb ga cap).bb n = w.heap.size + 1 := by simp [newA, upd]
  have dbn : (newA A w.heap.size n gb ga cap).db n = w.heap.size := by simp [newA, upd]
  have bbo : ∀ i, i ≠ n → (newA A w.heap.size n gb ga cap).bb i = A.bb i := fun i hne => by simp [newA, upd, hne]
  have dbo : ∀ i, i ≠ n → (newA A w.heap.size n gb ga cap).db i = A.db i := fun i hne => by simp [newA, upd, hne]
  refine ⟨?_, ?_⟩
  · refine
      { ub := fun k hk => by have := h.ub k hk; simp [World.setCell]; omega
        slab := fun i hi => ?_, vec := ?_, ptr := fun i hi => ?_, blk := fun i hi hl j hj => ?_, dat := fun i hi hl o ho => ?_
        tS := (tlow _ hsb).trans h.tS, tV := ?_, tA := fun _ => ?_, tB := fun i hi hl => ?_, tD := fun i hi hl => ?_
        nS := h.nS, nV := fun hk => ?_, nA := fun _ hk => ?_, nB := fun i hi hl hk => ?_, nD := fun i hi hl hk => ?_, capn := ?_ }
    · by_cases e0 : i = 0
      · subst e0
        exact Has.set_same ((h.slab 0 hi).of_block (hlo _ hsb)) _
      · have h1 := ((h.slab i hi).of_block (hlo _ hsb)).set_other (a := ⟨A.sb, 0, none⟩) (.pointer (some ⟨gb, 0, none⟩)) (fun e2 => e0 (by simpa using (congrArg Addr.off e2).symm))
        rw [slabV, if_neg e0] at h1 ⊢
        exact h1
    · show (wx.setCell ⟨A.sb, 0, none⟩ _).heap[gb]? = _
      rw [heap_setCell_other _ _ _ _ (by show gb ≠ A.sb; intro e; have : A.sb < w.heap.size := hsb; omega), hV.box]
      have e2 : (newS S n).nb = nb2 := hV.len.symm
      have e3 : nb2 ≠ 0 := by rw [hV.len]; split <;> omega
      rw [vecV, e2, if_neg e3]
      rfl
    · have h1 := hV.ptr i (by rw [hV.len]; exact hi)
      have h2 := nh h1 (by show ga ≠ A.sb; intro e; have : A.sb < w.heap.size := hsb; omega)
      by_cases e : i = n
      · subst e
        rw [if_pos rfl] at h2
        rw [ptrV, bbn]
        have : (newS S i).live i = true := by simp [newS, upd]
        rw [this, if_pos rfl]
        exact h2
      · rw [if_neg e] at h2
        rw [ptrV, lv i e, bbo i e]
        exact h2
    · by_cases e : i = n
      · subst e
        rw [bbn]
        have hb : (newS S i).b i = laidB 8 := by simp [newS]
        by_cases ej : j = 0
        · subst ej
          rw [blkV, if_pos rfl, dbn]
          exact nh hV.fr.blk0 (by show w.heap.size + 1 ≠ A.sb; have : A.sb < w.heap.size := hsb; omega)
        · rw [blkV, if_neg ej, hb]
          exact nh (hV.fr.blk j (by omega) hj) (by show w.heap.size + 1 ≠ A.sb; have : A.sb < w.heap.size := hsb; omega)
      · have hi' := old i hi e
        rw [lv i e] at hl
        rw [bbo i e]
        have h1 := oh (h.blk i hi' hl j hj) (bne i hi' hl)
        have e2 : blkV (newA A w.heap.size n gb ga cap) (newS S n) i j = blkV A S i j := by
          unfold blkV
          rw [dbo i e]
          have : (newS S n).b i = S.b i := by simp [newS, e]
          rw [this]
        rw [e2]
        exact h1
    · by_cases e : i = n
      · subst e
        rw [dbn]
        have hb : (newS S i).d i o = 0 := by simp [newS]
        rw [hb]
        exact nh (hV.fr.dat o ho) (by show w.heap.size ≠ A.sb; have : A.sb < w.heap.size := hsb; omega)
      · have hi' := old i hi e
        rw [lv i e] at hl
        rw [dbo i e]
        have : (newS S n).d i = S.d i := by simp [newS, e]
        rw [this]
        exact oh (h.dat i hi' hl o ho) (dne i hi' hl)
    · show (if gb = w.heap.size then _ else if gb = w.heap.size + 1 then _ else if gb = gb then 1 else _) = 1
      rw [if_neg (by omega), if_neg (by omega), if_pos rfl]
    · show (if ga = w.heap.size then _ else if ga = w.heap.size + 1 then _ else if ga = gb then 1 else if ga = ga then 2 else _) = 2
      rw [if_neg (by omega), if_neg (by omega), if_neg hV.ne, if_pos rfl]
    · by_cases e : i = n
      · subst e
        rw [bbn]
        show (if w.heap.size + 1 = w.heap.size then _ else if w.heap.size + 1 = w.heap.size + 1 then 3 + 2 * i else _) = _
        rw [if_neg (by omega), if_pos rfl]
      · have hi' := old i hi e
        rw [lv i e] at hl
        rw [bbo i e, tlow _ (h.blk i hi' hl 0 (by omega)).lt]
        exact h.tB i hi' hl
    · by_cases e : i = n
      · subst e
        rw [dbn]
        show (if w.heap.size = w.heap.size then 4 + 2 * i else _) = _
        rw [if_pos rfl]
      · have hi' := old i hi e
        rw [lv i e] at hl
        rw [dbo i e, tlow _ (h.dat i hi' hl 0 (by unfold K; omega)).lt]
        exact h.tD i hi' hl
    · have h1 : gb < w.heap.size := h.ub gb hk
      omega
    · have h1 : ga < w.heap.size := h.ub ga hk
      omega
    · by_cases e : i = n
      · subst e
        rw [bbn] at hk
        have := h.ub _ hk
        omega
      · have hi' := old i hi e
        rw [lv i e] at hl
        rw [bbo i e] at hk
        exact h.nB i hi' hl hk
    · by_cases e : i = n
      · subst e
        rw [dbn] at hk
        have := h.ub _ hk
        omega
      · have hi' := old i hi e
        rw [lv i e] at hl
        rw [dbo i e] at hk
        exact h.nD i hi' hl hk
    · show (newS S n).nb ≤ cap ∧ cap ≤ maxLen
      have e2 : (newS S n).nb = nb2 := hV.len.symm
      rw [e2]
      exact hV.cap
  · exact Keep.set ⟨hV.fr.low.os, hV.fr.low.tape, hV.fr.low.output, hV.fr.low.size, fun k hk => hlo k (h.ub k hk)⟩ (a := ⟨A.sb, 0, none⟩) h.nS _

/-- The new block's last k pages linked. -/
def linkN (S : St) (n : Nat) : Nat → St
  | 0 => S
  | k + 1 => linkS (linkN S n k) 179 (n * 8 + (7 - k))
theorem linkS_nb (S : St) (i p : Nat) : (linkS S i p).nb = S.nb ∧ (linkS S i p).live = S.live := by
  unfold linkS
  simp only [setH, setP]
  split
  · exact ⟨rfl, rfl⟩
  · exact ⟨rfl, rfl⟩
theorem linkS_hd (S : St) (i p : Nat) : (linkS S i p).w i = p := by simp [linkS, setH, upd]
theorem linkN_nb (S : St) (n k : Nat) : (linkN S n k).nb = S.nb ∧ (linkN S n k).live = S.live := by
  induction k with
  | zero => exact ⟨rfl, rfl⟩
  | succ k ih => exact ⟨(linkS_nb _ _ _).1.trans ih.1, (linkS_nb _ _ _).2.trans ih.2⟩
theorem linkN_hd (S : St) (n k : Nat) : (linkN S n (k + 1)).w 179 = ((n * 8 + (7 - k) : Nat) : Int) := linkS_hd _ _ _
/-- freePage where no page is free: a new block in place n. -/
def freeS (S : St) (n : Nat) : St :=
  let S2 := linkN (newS S n) n 8
  setH (setH S2 180 (wrap64 (S2.w 180 + 8))) 181 (wrap64 (S2.w 181 + 1))

/-- There is none: as far as the new block. -/
theorem free_none (h : R U A S w) (hf : S.w 179 = -1) (hnb : S.nb ≤ 1000) :
    Calls Yba.prog 14 #[.pointer (some ⟨A.sb, 0, none⟩)] w fun e w' => ∃ n A', n ≤ S.nb ∧ (n < S.nb → S.live n = false) ∧ A'.sb = A.sb ∧ e = .returned (.int .i32 ((n * 8 : Nat) : Int)) ∧ R U A' (freeS S n) w' ∧ Keep U w w' := by
  obtain ⟨a1, b1⟩ := h.hd (i := 179) (by omega) (by omega)
  rw [hf] at a1
  have h0 : w.cell? ⟨A.sb, 0, none⟩ = some (.pointer (some ⟨A.vb, 0, none⟩)) := (h.slab 0 (by omega)).1
  obtain ⟨vo, vc, nb, HN, hvec, hvo, hvc⟩ : ∃ (vo : Option Addr) (vc nb : Nat), Hid (S.nb = nb) ∧ vecV A S = .slice vo nb vc ∧ (0 < nb → vo = some ⟨A.ab, 0, none⟩) ∧ (vo = none → nb = 0 ∧ vc = 0) := by
    unfold vecV
    split
    · rename_i e; exact ⟨none, 0, 0, e, rfl, fun h => absurd h (by omega), fun _ => ⟨rfl, rfl⟩⟩
    · exact ⟨_, _, _, rfl, rfl, fun _ => rfl, fun h => by cases h⟩
  have hnb' : nb ≤ 1000 := by have := HN.out; omega
  have hv := h.vec
  rw [hvec] at hv
  have h1 : w.cell? ⟨A.vb, 0, none⟩ = some (.slice vo nb vc) := by simp [World.cell?, hv]
  go_enter Yba.func14, Yba.ntmps14
  go_wp2_with fail
  refine (load_any A.sb A.vb _ w h0 hv).mono ?_
  rintro e w1 ⟨rfl, rfl⟩
  go_upto_block 0 with fail
  go_cut [4, 5] from 29 to 38 (fun v _ wx => ∃ n : Nat, v = .int .i64 (n : Int) ∧ n ≤ nb ∧ (n < nb → S.live n = false) ∧ w1 = wx)
  case first =>
    go_wp2_with fail
    go_loopg [4, 5, 29] nb (fun g v _ i wr => ∃ k : Nat, k + g = nb ∧ v = .int .i64 (nb : Int) ∧ i = .int .i64 (k : Int) ∧ w1 = wr)
    case atStart => exact ⟨0, by omega, rfl, rfl, rfl⟩
    case round =>
      obtain ⟨k, hk, rfl, rfl, rfl⟩ := hrel
      have HK : Hid (k + gk = nb) := hk
      by_cases hlt : k < nb
      · have tk : decide ((k : Int) < nb) = true := by simpa using hlt
        obtain rfl := hvo (by omega)
        have hpk := (h.ptr k (by have := HN.out; omega)).1
        unfold ptrV at hpk
        have j0 : (0 : Int) ≤ (k : Int) := by omega
        have j1 : (k : Int) < (nb : Int) := by omega
        cases hlk : S.live k with
        | true =>
          rw [hlk, if_pos rfl] at hpk
          clear hk hlt
          go_wp2
          go_roundg (gk - 1)
          case measure => have := HK.out; omega
          case rel => exact ⟨k + 1, by have := HK.out; omega, rfl, by go_num, rfl⟩
        | false =>
          rw [hlk, if_neg (by simp)] at hpk
          clear hk
          go_wp2
          go_meet
          case rel => exact ⟨k, rfl, by omega, fun _ => hlk, rfl⟩
      · have tk : decide ((k : Int) < nb) = false := by simpa using hlt
        go_wp2
        go_meet
        case rel => exact ⟨nb, rfl, Nat.le_refl _, fun h => absurd h (by omega), rfl⟩
  case rest =>
  obtain ⟨n, rfl, hn, hnl, rfl⟩ := hcut
  have hmk := make_run
  go_upto_region 11 with fail
  go_cut [6] from 39 to 41 (fun v wx => v = .pointer (some ⟨w1.heap.size + 1, 0, none⟩) ∧ Fresh w1 0 wx)
  case first =>
    go_wp2
    go_meet
    case rel => exact ⟨rfl, fresh_made w1⟩
  case rest =>
  obtain ⟨rfl, hF⟩ := hcut
  clear hmk
  obtain ⟨w2, e2⟩ : ∃ x, x = wc := ⟨_, rfl⟩
  subst e2
  go_upto_block 2 with fail
  go_cut [7] from 42 to 51 (fun _ wx => Fresh w1 8 wx)
  case first =>
    go_wp2_with fail
    go_loopg [7, 42] 8 (fun g _ i wr => ∃ k : Nat, k + g = 8 ∧ i = .int .i64 (k : Int) ∧ Fresh w1 k wr)
    case atStart => exact ⟨0, by omega, rfl, hF⟩
    case round =>
      obtain ⟨k, hk, rfl, hFk⟩ := hrel
      have HK : Hid (k + gk = 8) := hk
      by_cases hlt : k < 8
      · have tk : decide ((k : Int) < 8) = true := by simp; omega
        have j0 : (0 : Int) ≤ (k : Int) := by omega
        have j1 : (k : Int) < 8 := by omega
        obtain ⟨p0, q0⟩ := hFk.blk (1 + k * 6) (by omega) (by omega)
        obtain ⟨p1, q1⟩ := hFk.blk (1 + k * 6 + 1) (by omega) (by omega)
        obtain ⟨p2, q2⟩ := hFk.blk (1 + k * 6 + 2) (by omega) (by omega)
        obtain ⟨p3, q3⟩ := hFk.blk (1 + k * 6 + 3) (by omega) (by omega)
        obtain ⟨p4, q4⟩ := hFk.blk (1 + k * 6 + 4) (by omega) (by omega)
        obtain ⟨p5, q5⟩ := hFk.blk (1 + k * 6 + 5) (by omega) (by omega)
        clear hk hlt
        go_wp2
        go_roundg (gk - 1)
        case measure => have := HK.out; omega
        case rel => exact ⟨k + 1, by have := HK.out; omega, by go_num, hFk.page (by have := HK.out; omega)⟩
      · have tk : decide ((k : Int) < 8) = false := by simp; omega
        obtain rfl : k = 8 := by omega
        go_wp2
        go_meet
        case rel => exact hFk
  case rest =>
  clear hF
  have hF := hcut
  clear hcut
  obtain ⟨w3, e3⟩ : ∃ x, x = wc := ⟨_, rfl⟩
  subst e3
  obtain ⟨i0, hi0, hz0, hz1, hz2⟩ := info_parts Yba.info67
  go_upto_region 17 with fail
  go_cut [8] from 52 to 53 (fun v wx => ∃ gb u, v = .pointer (some ⟨gb, 0, none⟩) ∧ Grown w1 (ptrs A S) u gb wx)
  case first =>
    cases vo with
    | none =>
      obtain ⟨rfl, rfl⟩ := hvc rfl
      go_wp2_with (at_builtin; refine wpList_append_own_none rfl _ _ 57 rfl w3.heap.size 67 i0 1 Yba.underlying57 hi0 _ 0 [] rfl (World.ownsRow_nil _ _ _ _) rfl ?_)
      go_meet
      case rel =>
        have hp0 : ptrs A S = [] := List.eq_nil_of_length_eq_zero (by rw [ptrs_len, HN.out])
        refine ⟨_, _, rfl, grown_of hF hF.size ?_⟩
        rw [hp0]
        exact World.ownsRow_nil _ _ _ _
    | some x =>
      have hxe : 0 < nb → x = ⟨A.ab, 0, none⟩ := fun h0 => Option.some.inj (hvo h0)
      have hnews : ∀ j u, (ptrs A S)[j]? = some u → w3.cell? (x.add j) = some u := fun j u hu => by
        have hj : j < S.nb := by rw [← ptrs_len A S]; exact (List.getElem?_eq_some_iff.1 hu).1
        have e1 : u = ptrV A S j := by simpa [ptrs, hj] using hu.symm
        rw [hxe (by have := HN.out; omega), Addr.add_lit, Nat.zero_add, e1, hF.low.cell (World.block_lt_of_cell? w1 _ (h.ptr j hj).1)]
        exact (h.ptr j hj).1
      have hlen : (ptrs A S).length = nb * 1 := by rw [ptrs_len, HN.out]; omega
      have hone := ptrs_one A S
      go_wp2_with (at_builtin; refine wpList_append_own _ rfl _ _ 57 rfl w3.heap.size 67 i0 (.pointer none) 1 8 Yba.underlying57 hi0 hz0 hz1 hz2 rfl (by decide) _ 0 [] rfl (World.ownsRow_nil _ _ _ _) x nb vc (ptrs A S) rfl hlen hnews hone (by unfold maxLen; omega) (by omega) (Nat.le_refl _) ?_; intro v4 w4 hown4 hgrow4 _; obtain ⟨a4, c4, rfl⟩ := slice_of_own hown4)
      go_meet
      case rel =>
        have hsz := hF.size
        refine ⟨_, _, rfl, grown_of (hF.frame ((Below.refl _ _).grown hgrow4 hsz (fun k hk => by cases hk))) hsz ?_⟩
        rw [ptrs_len, HN.out]
        simpa using hown4
  case rest =>
  obtain ⟨gb, u, rfl, hG⟩ := hcut
  clear hF
  obtain ⟨w4, e4⟩ : ∃ x, x = wc := ⟨_, rfl⟩
  subst e4
  obtain ⟨ua, uc, rfl⟩ := slice_of_own hG.own
  have gbox : w4.cell? ⟨gb, 0, none⟩ = some (.slice ua (ptrs A S).length uc) := by simp [World.cell?, hG.box]
  have gfr : w4.frozen? ⟨gb, 0, none⟩ = false := by simp [World.frozen?, hG.box]
  rw [ptrs_len, HN.out] at gbox
  go_upto_region 18 with fail
  go_cut [57] from 54 to 56 (fun v wx => v = .bool ((n : Int) == (nb : Int)) ∧ w4 = wx)
  case first =>
    go_wp2
    go_meet
    case rel => exact ⟨rfl, rfl⟩
  case rest =>
  obtain ⟨rfl, rfl⟩ := hcut
  go_upto_if 57 with fail
  go_cut [58] from 57 to 65 (fun _ wx => ∃ ga cap nb2, Vec2 w1 A S n gb ga cap nb2 wx)
  case first =>
    by_cases hnn : n = nb
    · subst hnn
      have t0 : ((n : Int) == (n : Int)) = true := by simp
      rw [t0]
      have hown := hG.own
      rw [ptrs_len, HN.out] at hown
      have hlt4 := lt_of_block hG.box
      have hge4 := hG.ge
      have hne4 := hG.ne
      rw [ptrs_len, HN.out] at hne4
      have hbx4 := hG.box
      rw [ptrs_len, HN.out] at hbx4
      go_wp2_with (at_builtin; refine wpList_append_own _ rfl _ _ 57 rfl (w1.heap.size + 2) 67 i0 (.pointer none) 1 8 Yba.underlying57 hi0 hz0 hz1 hz2 rfl (by decide) _ n (ptrs A S) rfl (hown.alloc _) ⟨w4.heap.size, 0, none⟩ 1 1 [.pointer (some ⟨w1.heap.size + 1, 0, none⟩)] rfl rfl (cell_one_new _ _ _) (by simp [Value.oneCell']) (by unfold maxLen; omega) (by omega) (by simp; omega) ?_; intro v5 w5 hown5 hgrow5 _; obtain ⟨a5, c5, rfl⟩ := slice_of_own hown5; have hb5 := (hgrow5.block gb (by rw [World.size_alloc]; omega) (fun e => hne4 e.symm)).trans (heap_alloc_at hbx4); have gc5 : w5.cell? ⟨gb, 0, none⟩ = some (.slice ua n uc) := (by simp [World.cell?, hb5]); have gf5 : w5.frozen? ⟨gb, 0, none⟩ = false := (by simp [World.frozen?, hb5]))
      go_meet
      case rel =>
        obtain ⟨g5, e5⟩ : ∃ g5, a5 = some ⟨g5, 0, none⟩ := by
          rcases hown5.2 with ⟨_, e⟩ | ⟨g', cap, cur, e, _⟩
          · omega
          · exact ⟨g', by simpa using (Value.slice.inj e).1⟩
        subst e5
        have hne5 : g5 ≠ gb := fun e => by
          rcases hown5.2 with ⟨e1, _⟩ | ⟨g', cap, cur, e1, _, hh, _⟩
          · cases e1
          · have e2 : g' = g5 := by simpa [eq_comm] using congrArg (fun v => match v with | Value.slice (some a) _ _ => a.block | _ => 0) e1
            rw [e2, e, hb5] at hh
            simp at hh
        have hcap5 : n + 1 ≤ c5 ∧ c5 ≤ maxLen := by
          rcases hown5.2 with ⟨e1, _⟩ | ⟨g', cap, cur, e1, _, hh, h1, h2, _⟩
          · cases e1
          · have e2 : c5 = cap := by simpa using congrArg (fun v => match v with | Value.slice _ _ c => c | _ => 0) e1
            rw [e2]; exact ⟨h1, h2⟩
        refine ⟨g5, c5, n + 1, hG.fr.frame ((((Below.refl _ _).alloc (by have := hG.fr.size; omega) _).grown hgrow5 (by simp; have := hG.fr.size; omega) (fun k hk => (hown.lt k hk).1)).setCell (p := ⟨gb, 0, none⟩) hge4 _), hge4, (hown5.lt g5 rfl).1, hne5, ?_, fun i hi => ?_, by rw [HN.out, if_pos rfl], hcap5⟩
        · exact heap_setCell_same w5 gb 0 _ 57 _ hb5
        · refine Has.set_other (has_of_own hown5 i hi _ ?_) _ (ne_block (fun e => hne5 e.symm))
          by_cases hin : i = n
          · subst hin
            rw [if_pos rfl, List.getElem?_append_right (by rw [ptrs_len, HN.out]; exact Nat.le_refl _), ptrs_len, HN.out]
            simp
          · rw [if_neg hin, List.getElem?_append_left (by rw [ptrs_len, HN.out]; omega)]
            have : i < S.nb := by rw [HN.out]; omega
            simp [ptrs, this]
    · have hnlt : n < nb := by have := HN.out; omega
      have t0 : ((n : Int) == (nb : Int)) = false := by simp; omega
      rw [t0]
      have hown := hG.own
      rw [ptrs_len, HN.out] at hown
      obtain ⟨g5, e5⟩ : ∃ g5, ua = some ⟨g5, 0, none⟩ := by
        rcases hown.2 with ⟨_, e⟩ | ⟨g', cap, cur, e, _⟩
        · omega
        · exact ⟨g', by simpa using (Value.slice.inj e).1⟩
      subst e5
      have hpn : (ptrs A S)[n]? = some (ptrV A S n) := by
        have : n < S.nb := by rw [HN.out]; omega
        simp [ptrs, this]
      obtain ⟨p5, f5⟩ := has_of_own hown n hnlt _ hpn
      have hne4 := hG.ne
      have hne5 : g5 ≠ gb := fun e => hne4 (by rw [e]; rfl)
      have hbx4 := hG.box
      rw [ptrs_len, HN.out] at hbx4
      have hge4 := hG.ge
      have j0 : (0 : Int) ≤ (n : Int) := by omega
      have j1 : (n : Int) < (nb : Int) := by omega
      have HL : Hid (n < nb) := hnlt
      clear hnn hnlt hne4
      go_wp2
      go_meet
      case rel =>
        have hcap5 : nb ≤ uc ∧ uc ≤ maxLen := by
          rcases hown.2 with ⟨e1, _⟩ | ⟨g', cap, cur, e1, _, hh, h1, h2, _⟩
          · cases e1
          · have e2 : uc = cap := by simpa using congrArg (fun v => match v with | Value.slice _ _ c => c | _ => 0) e1
            rw [e2]; exact ⟨h1, h2⟩
        refine ⟨g5, uc, nb, hG.fr.frame ((Below.refl _ _).setCell (p := ⟨g5, n, none⟩) (hown.lt g5 rfl).1 _), hge4, (hown.lt g5 rfl).1, hne5, ?_, fun i hi => ?_, by rw [HN.out, if_neg (by have := HL.out; omega)], hcap5⟩
        · rw [heap_setCell_other _ _ _ _ (by show gb ≠ g5; exact fun e => hne5 e.symm)]
          exact hbx4
        · by_cases hin : i = n
          · subst hin
            rw [if_pos rfl]
            exact Has.set_same ⟨p5, f5⟩ _
          · rw [if_neg hin]
            refine Has.set_other (has_of_own hown i hi _ ?_) _ (fun e => hin (by simpa using (congrArg Addr.off e).symm))
            have : i < S.nb := by rw [HN.out]; omega
            simp [ptrs, this]
  case rest =>
  obtain ⟨ga, gcap, nb2, hV⟩ := hcut
  clear hG gbox gfr hi0 hz0 hz1 hz2
  obtain ⟨w5, e5⟩ : ∃ x, x = wc := ⟨_, rfl⟩
  subst e5
  obtain ⟨hR1, hK1⟩ := newR h (by rw [HN.out]; exact hn) (by rw [HN.out]; exact hnl) hV
  have s0 : w5.cell? ⟨A.sb, 0, none⟩ = some (.pointer (some ⟨A.vb, 0, none⟩)) := (hV.fr.low.cell (World.block_lt_of_cell? w1 _ h0)).trans h0
  have s1 : w5.frozen? ⟨A.sb, 0, none⟩ = false := (hV.fr.low.frozen (World.block_lt_of_cell? w1 _ h0)).trans (h.slab 0 (by omega)).2
  have s2 : w5.cell? ⟨gb, 0, none⟩ = some (.slice (some ⟨ga, 0, none⟩) nb2 gcap) := by simp [World.cell?, hV.box]
  go_wp2_with fail
  refine (store_any A.sb _ ⟨gb, 0, none⟩ _ w5 s0 s1 s2).mono ?_
  rintro e w6 ⟨rfl, rfl⟩
  clear hV s0 s1 s2 h0 h1 hv hvec hvo hvc a1 b1
  obtain ⟨w6, e6⟩ : ∃ x, x = w5.setCell ⟨A.sb, 0, none⟩ (.pointer (some ⟨gb, 0, none⟩)) := ⟨_, rfl⟩
  rw [← e6] at hR1 hK1 ⊢
  have HE6 : Hid (w6 = w5.setCell ⟨A.sb, 0, none⟩ (.pointer (some ⟨gb, 0, none⟩))) := e6
  clear e6
  have hlv : ∀ k q, q < 8 → Live (linkN (newS S n) n k) (n * 8 + q) := fun k q hq => by
    unfold Live
    rw [(linkN_nb _ _ _).1, (linkN_nb _ _ _).2]
    have e : (n * 8 + q) / 8 = n := by omega
    rw [e]
    refine ⟨?_, by simp [newS, upd]⟩
    show n < if n = S.nb then S.nb + 1 else S.nb
    have := HN.out
    split <;> omega
  have hlk : ∀ k, k ≤ 8 → Lk (linkN (newS S n) n k) ((linkN (newS S n) n k).w 179) := fun k hk => by
    cases k with
    | zero => exact .inl hf
    | succ k => exact .inr ⟨n * 8 + (7 - k), linkN_hd _ _ _, hlv _ _ (by omega), by omega⟩
  have HLV : Hid (∀ k q, q < 8 → Live (linkN (newS S n) n k) (n * 8 + q)) := hlv
  have HLK : Hid (∀ k, k ≤ 8 → Lk (linkN (newS S n) n k) ((linkN (newS S n) n k).w 179)) := hlk
  clear hlv hlk
  go_upto_block 4 with fail
  go_cut [9] from 70 to 83 (fun _ wx => R U (newA A w1.heap.size n gb ga gcap) (linkN (newS S n) n 8) wx ∧ Keep U w1 wx)
  case first =>
    go_wp2_with fail
    go_loopg [9] 8 (fun g i wr => ∃ k : Nat, k + g = 8 ∧ i = .int .i64 (7 - (k : Int)) ∧ R U (newA A w1.heap.size n gb ga gcap) (linkN (newS S n) n k) wr ∧ Keep U w1 wr)
    case atStart => exact ⟨0, by omega, rfl, hR1, hK1⟩
    case round =>
      obtain ⟨k, hk, rfl, hRk, hKk⟩ := hrel
      have HK : Hid (k + gk = 8) := hk
      by_cases hlt : k < 8
      · have tk : decide (7 - (k : Int) ≥ 0) = true := by simp; omega
        clear hk
        go_wp2_with fail
        have e : ((n : Int) * 8 + (7 - (k : Int))) = ((n * 8 + (7 - k) : Nat) : Int) := by omega
        rw [e]
        refine (link_any hRk 179 (n * 8 + (7 - k)) (HLV.out k _ (by omega)) (by omega) (by omega) (by omega) (HLK.out k (by omega))).mono ?_
        rintro e w7 ⟨rfl, hR7, hK7⟩
        clear hlt
        go_wp2
        go_roundg (gk - 1)
        case measure => have := HK.out; omega
        case rel => exact ⟨k + 1, by have := HK.out; omega, by go_num, hR7, hKk.trans hK7⟩
      · have tk : decide (7 - (k : Int) ≥ 0) = false := by simp; omega
        obtain rfl : k = 8 := by omega
        go_wp2
        go_meet
        case rel => exact ⟨hRk, hKk⟩
  case rest =>
  obtain ⟨hR2, hK2⟩ := hcut
  clear hR1 hK1 HLK HLV
  obtain ⟨w7, e7⟩ : ∃ x, x = wc := ⟨_, rfl⟩
  subst e7
  obtain ⟨S2, HS2⟩ : ∃ X, Hid (X = linkN (newS S n) n 8) := ⟨_, rfl⟩
  rw [← HS2.out] at hR2
  obtain ⟨l1, m1⟩ := hR2.lw (i := 180) (by omega) (by omega)
  obtain ⟨l2, m2⟩ := hR2.lw (i := 181) (by omega) (by omega)
  obtain ⟨l3, m3⟩ := hR2.hd (i := 179) (by omega) (by omega)
  have esb : (newA A w1.heap.size n gb ga gcap).sb = A.sb := rfl
  rw [esb] at l1 m1 l2 m2 l3 m3
  go_wp2
  go_ret
  have e179 : S2.w 179 = ((n * 8 : Nat) : Int) := by rw [HS2.out]; exact linkN_hd _ _ 7
  have hR3 := hR2.setLw (i := 180) (by omega) (by omega) (wrap64 (S2.w 180 + 8))
  have hR4 := hR3.setLw (i := 181) (by omega) (by omega) (wrap64 (S2.w 181 + 1))
  refine ⟨n, newA A w1.heap.size n gb ga gcap, by rw [HN.out]; exact hn, by rw [HN.out]; exact hnl, rfl, by rw [← e179]; rfl, ?_, hR3.kHd (hR2.kHd hK2 _ _) _ _⟩
  have e4 : freeS S n = setH (setH S2 180 (wrap64 (S2.w 180 + 8))) 181 (wrap64 (S2.w 181 + 1)) := by unfold freeS; rw [HS2.out]
  rw [e4]
  exact hR4
end
end Go.Proofs.Ybulkcqic
