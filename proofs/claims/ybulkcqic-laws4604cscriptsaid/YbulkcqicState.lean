/-
  The slabs' memory as a plain state, and the relation between the state and the world.
-/
import Derived.Test.YbulkcqicRows
import Derived.WalkKit
import Derived.WalkSpells
import Derived.Below
import Derived.Deep.CutBlock
import Derived.Deep.CutRange
import Derived.Deep.LoopGhost
import Derived.Deep.RegionWith
import Derived.Deep.QuietTactic
import Derived.BigQuiet
namespace Go.Proofs.Ybulkcqic
open Go.RowKit

/-- The size of a block's data. -/
def K : Nat := 131072
def upd {α : Type} (f : Nat → α) (i : Nat) (x : α) : Nat → α := fun j => if j = i then x else f j
theorem upd_same {α : Type} (f : Nat → α) (i : Nat) (x : α) : upd f i x i = x := by simp [upd]
theorem upd_other {α : Type} (f : Nat → α) (i j : Nat) (x : α) (h : j ≠ i) : upd f i x j = f j := by simp [upd, h]
def upd2 {α : Type} (f : Nat → Nat → α) (i j : Nat) (x : α) : Nat → Nat → α := fun k => if k = i then upd (f i) j x else f k
theorem upd2_same {α : Type} (f : Nat → Nat → α) (i j : Nat) (x : α) : upd2 f i j x i j = x := by simp [upd2, upd]
theorem upd2_other {α : Type} (f : Nat → Nat → α) (i j k l : Nat) (x : α) (h : ¬ (k = i ∧ l = j)) : upd2 f i j x k l = f k l := by
  unfold upd2 upd
  by_cases hk : k = i
  · subst hk
    have : l ≠ j := fun e => h ⟨rfl, e⟩
    simp [this]
  · simp [hk]

/-- w: the slabs' cells 1..181 (mutex 1, 2; lists 3 + c; classPages 91 + c; free 179; freePages 180; heldBlocks 181); b i: block i's cells 1..49 (page q's field f: 1 + 6 q + f; free 49); d i: its bytes. -/
structure St where
  w : Nat → Int
  b : Nat → Nat → Int
  d : Nat → Nat → Int
  nb : Nat
  live : Nat → Bool
/-- Where it lies. -/
structure Ad where
  sb : Nat
  vb : Nat
  ab : Nat
  cap : Nat
  bb : Nat → Nat
  db : Nat → Nat
  tag : Nat → Nat

def Has (w : World) (a : Addr) (v : Value) : Prop := w.cell? a = some v ∧ w.frozen? a = false

def wk (i : Nat) : IntKind := if i = 2 then .u32 else if i < 180 then .i32 else .i64
def bk (j : Nat) : IntKind := if j = 49 then .i64 else if (j - 1) % 6 = 0 then .u8 else if (j - 1) % 6 ≤ 3 then .u16 else .i32
def slabV (A : Ad) (S : St) (i : Nat) : Value := if i = 0 then .pointer (some ⟨A.vb, 0, none⟩) else .int (wk i) (S.w i)
def blkV (A : Ad) (S : St) (i j : Nat) : Value := if j = 0 then .slice (some ⟨A.db i, 0, none⟩) K K else .int (bk j) (S.b i j)
def ptrV (A : Ad) (S : St) (i : Nat) : Value := .pointer (if S.live i then some ⟨A.bb i, 0, none⟩ else none)
def vecV (A : Ad) (S : St) : Value := if S.nb = 0 then .slice none 0 0 else .slice (some ⟨A.ab, 0, none⟩) S.nb A.cap

structure R (U : Nat → Prop) (A : Ad) (S : St) (w : World) : Prop where
  ub : ∀ k, U k → k < w.heap.size
  slab : ∀ i, i < 182 → Has w ⟨A.sb, i, none⟩ (slabV A S i)
  vec : w.heap[A.vb]? = some (.cells #[vecV A S] 57 (0, 0))
  ptr : ∀ i, i < S.nb → Has w ⟨A.ab, i, none⟩ (ptrV A S i)
  blk : ∀ i, i < S.nb → S.live i = true → ∀ j, j < 50 → Has w ⟨A.bb i, j, none⟩ (blkV A S i j)
  dat : ∀ i, i < S.nb → S.live i = true → ∀ o, o < K → Has w ⟨A.db i, o, none⟩ (.int .u8 (S.d i o))
  tS : A.tag A.sb = 0
  tV : A.tag A.vb = 1
  tA : 0 < S.nb → A.tag A.ab = 2
  tB : ∀ i, i < S.nb → S.live i = true → A.tag (A.bb i) = 3 + 2 * i
  tD : ∀ i, i < S.nb → S.live i = true → A.tag (A.db i) = 4 + 2 * i
  nS : ¬ U A.sb
  nV : ¬ U A.vb
  nA : 0 < S.nb → ¬ U A.ab
  nB : ∀ i, i < S.nb → S.live i = true → ¬ U (A.bb i)
  nD : ∀ i, i < S.nb → S.live i = true → ¬ U (A.db i)
  capn : S.nb ≤ A.cap ∧ A.cap ≤ maxLen

/-- The caller's blocks stay. -/
structure Keep (U : Nat → Prop) (w w' : World) : Prop where
  os : w'.os = w.os
  tape : w'.tape = w.tape
  output : w'.output = w.output
  size : w.heap.size ≤ w'.heap.size
  blk : ∀ k, U k → w'.heap[k]? = w.heap[k]?

theorem Keep.refl (U : Nat → Prop) (w : World) : Keep U w w := ⟨rfl, rfl, rfl, Nat.le_refl _, fun _ _ => rfl⟩
theorem Keep.trans {U : Nat → Prop} {a b c : World} (h : Keep U a b) (k : Keep U b c) : Keep U a c :=
  ⟨k.os.trans h.os, k.tape.trans h.tape, k.output.trans h.output, Nat.le_trans h.size k.size, fun i hi => (k.blk i hi).trans (h.blk i hi)⟩
theorem Keep.set {U : Nat → Prop} {w w' : World} (h : Keep U w w') {a : Addr} (ha : ¬ U a.block) (v : Value) : Keep U w (w'.setCell a v) :=
  ⟨h.os, h.tape, h.output, by simpa [World.setCell] using h.size, fun k hk => (Below.heap_setCell _ _ _ _ (fun e => ha (e ▸ hk))).trans (h.blk k hk)⟩
theorem Keep.alloc {U : Nat → Prop} {w w' : World} (h : Keep U w w') (hu : ∀ k, U k → k < w.heap.size) (o : Obj) : Keep U w (w'.alloc o) :=
  ⟨h.os, h.tape, h.output, by have := h.size; simp; omega, fun k hk => (Below.heap_alloc _ _ _ (Nat.lt_of_lt_of_le (hu k hk) h.size)).trans (h.blk k hk)⟩
theorem Keep.drew {U : Nat → Prop} {w w' : World} (h : Keep U w w') : Keep U w w'.drew := ⟨h.os, h.tape, h.output, h.size, h.blk⟩

theorem Has.lt {w : World} {a : Addr} {v : Value} (h : Has w a v) : a.block < w.heap.size := World.block_lt_of_cell? w _ h.1
theorem Has.of_block {w w' : World} {a : Addr} {v : Value} (h : Has w a v) (hb : w'.heap[a.block]? = w.heap[a.block]?) : Has w' a v :=
  ⟨(World.cell?_of_block hb).trans h.1, (World.frozen?_of_block hb).trans h.2⟩
theorem Has.alloc {w : World} {a : Addr} {v : Value} (h : Has w a v) (o : Obj) : Has (w.alloc o) a v := h.of_block (Below.heap_alloc w o _ h.lt)
theorem Has.drew {w : World} {a : Addr} {v : Value} (h : Has w a v) : Has w.drew a v := h
theorem Has.set_same {w : World} {a : Addr} {v : Value} (h : Has w a v) (u : Value) : Has (w.setCell a u) a u :=
  ⟨World.cell?_setCell_same w a u h.1, by rw [World.frozen?_setCell]; exact h.2⟩
theorem Has.set_other {w : World} {a b : Addr} {v : Value} (h : Has w b v) (u : Value) (hne : a ≠ b) : Has (w.setCell a u) b v :=
  ⟨(World.cell?_setCell_other w a b u hne).trans h.1, by rw [World.frozen?_setCell]; exact h.2⟩

section
variable {U : Nat → Prop} {A : Ad} {S : St} {w : World}

theorem ne_block {a b : Addr} (h : a.block ≠ b.block) : a ≠ b := fun e => h (e ▸ rfl)

/-- The caller's own memory turns. -/
theorem R.frame (h : R U A S w) {w' : World} (hs : w.heap.size ≤ w'.heap.size) (hb : ∀ k, ¬ U k → k < w.heap.size → w'.heap[k]? = w.heap[k]?) : R U A S w' where
  ub := fun k hk => Nat.lt_of_lt_of_le (h.ub k hk) hs
  slab := fun i hi => (h.slab i hi).of_block (hb _ h.nS (h.slab i hi).lt)
  vec := (hb _ h.nV (lt_of_block h.vec)).trans h.vec
  ptr := fun i hi => (h.ptr i hi).of_block (hb _ (h.nA (by omega)) (h.ptr i hi).lt)
  blk := fun i hi hl j hj => (h.blk i hi hl j hj).of_block (hb _ (h.nB i hi hl) (h.blk i hi hl j hj).lt)
  dat := fun i hi hl o ho => (h.dat i hi hl o ho).of_block (hb _ (h.nD i hi hl) (h.dat i hi hl o ho).lt)
  tS := h.tS
  tV := h.tV
  tA := h.tA
  tB := h.tB
  tD := h.tD
  nS := h.nS
  nV := h.nV
  nA := h.nA
  nB := h.nB
  nD := h.nD
  capn := h.capn
/-- The caller has new memory. -/
theorem R.user (h : R U A S w) {U' : Nat → Prop} {w0 : World} (hU : ∀ k, U' k → U k ∨ w0.heap.size ≤ k) (hu : ∀ k, U' k → k < w.heap.size) (h0 : R U A S w0) : R U' A S w where
  ub := hu
  slab := h.slab
  vec := h.vec
  ptr := h.ptr
  blk := h.blk
  dat := h.dat
  tS := h.tS
  tV := h.tV
  tA := h.tA
  tB := h.tB
  tD := h.tD
  nS := fun hk => (hU _ hk).elim h.nS fun hle => absurd (h0.slab 0 (by omega)).lt (by show ¬ A.sb < _; omega)
  nV := fun hk => (hU _ hk).elim h.nV fun hle => absurd (lt_of_block h0.vec) (by omega)
  nA := fun hn hk => (hU _ hk).elim (h.nA hn) fun hle => absurd (h0.ptr 0 hn).lt (by show ¬ A.ab < _; omega)
  nB := fun i hi hl hk => (hU _ hk).elim (h.nB i hi hl) fun hle => absurd (h0.blk i hi hl 0 (by omega)).lt (by show ¬ A.bb i < _; omega)
  nD := fun i hi hl hk => (hU _ hk).elim (h.nD i hi hl) fun hle => absurd (h0.dat i hi hl 0 (by unfold K; omega)).lt (by show ¬ A.db i < _; omega)
  capn := h.capn
theorem R.alloc (h : R U A S w) (o : Obj) : R U A S (w.alloc o) := h.frame (by simp) (fun k _ hk => Below.heap_alloc w o k hk)
theorem R.drew (h : R U A S w) : R U A S w.drew := h.frame (Nat.le_refl _) (fun _ _ _ => rfl)

theorem R.setW (h : R U A S w) {i : Nat} (h0 : 0 < i) (hi : i < 182) (v : Int) : R U A { S with w := upd S.w i v } (w.setCell ⟨A.sb, i, none⟩ (.int (wk i) v)) where
  ub := fun k hk => by simpa [World.setCell] using h.ub k hk
  slab := fun j hj => by
    by_cases e : j = i
    · subst e
      have := (h.slab j hj).set_same (.int (wk j) v)
      simpa [slabV, upd, Nat.pos_iff_ne_zero.1 h0] using this
    · have := (h.slab j hj).set_other (a := ⟨A.sb, i, none⟩) (.int (wk i) v) (fun e2 => e (by simpa using (congrArg Addr.off e2).symm))
      simpa [slabV, upd, e] using this
  vec := (Below.heap_setCell _ _ _ _ (Ne.symm (by show A.sb ≠ A.vb; intro e; have := h.tS; rw [e, h.tV] at this; omega))).trans h.vec
  ptr := fun j hj => (h.ptr j hj).set_other _ (ne_block (by show A.sb ≠ A.ab; intro e; have := h.tS; rw [e, h.tA (by have : j < S.nb := hj; omega)] at this; omega))
  blk := fun j hj hl q hq => (h.blk j hj hl q hq).set_other _ (ne_block (by show A.sb ≠ A.bb j; intro e; have := h.tS; rw [e, h.tB j hj hl] at this; omega))
  dat := fun j hj hl q hq => (h.dat j hj hl q hq).set_other _ (ne_block (by show A.sb ≠ A.db j; intro e; have := h.tS; rw [e, h.tD j hj hl] at this; omega))
  tS := h.tS
  tV := h.tV
  tA := h.tA
  tB := h.tB
  tD := h.tD
  nS := h.nS
  nV := h.nV
  nA := h.nA
  nB := h.nB
  nD := h.nD
  capn := h.capn

theorem R.setB (h : R U A S w) {i : Nat} (hi : i < S.nb) (hl : S.live i = true) {j : Nat} (h0 : 0 < j) (hj : j < 50) (v : Int) : R U A { S with b := upd2 S.b i j v } (w.setCell ⟨A.bb i, j, none⟩ (.int (bk j) v)) where
  ub := fun k hk => by simpa [World.setCell] using h.ub k hk
  slab := fun q hq => (h.slab q hq).set_other _ (ne_block (by show A.bb i ≠ A.sb; intro e; have := h.tS; rw [← e, h.tB i hi hl] at this; omega))
  vec := (Below.heap_setCell _ _ _ _ (Ne.symm (by show A.bb i ≠ A.vb; intro e; have := h.tV; rw [← e, h.tB i hi hl] at this; omega))).trans h.vec
  ptr := fun q hq => (h.ptr q hq).set_other _ (ne_block (by show A.bb i ≠ A.ab; intro e; have := h.tA (by omega); rw [← e, h.tB i hi hl] at this; omega))
  blk := fun k hk hlk q hq => by
    by_cases e : k = i ∧ q = j
    · obtain ⟨rfl, rfl⟩ := e
      have := (h.blk k hk hlk q hq).set_same (.int (bk q) v)
      simpa [blkV, upd2, upd, Nat.pos_iff_ne_zero.1 h0] using this
    · have hne : (⟨A.bb i, j, none⟩ : Addr) ≠ ⟨A.bb k, q, none⟩ := by
        intro e2
        simp only [Addr.mk.injEq, and_true] at e2
        have t1 := h.tB i hi hl
        rw [e2.1, h.tB k hk hlk] at t1
        exact e ⟨by omega, e2.2.symm⟩
      have h2 := (h.blk k hk hlk q hq).set_other (.int (bk j) v) hne
      have e3 : blkV A { S with b := upd2 S.b i j v } k q = blkV A S k q := by
        show (if q = 0 then _ else Value.int (bk q) (upd2 S.b i j v k q)) = _
        rw [upd2_other _ _ _ _ _ _ e]
        rfl
      rw [e3]
      exact h2
  dat := fun k hk hlk q hq => (h.dat k hk hlk q hq).set_other _ (ne_block (by show A.bb i ≠ A.db k; intro e; have := h.tD k hk hlk; rw [← e, h.tB i hi hl] at this; omega))
  tS := h.tS
  tV := h.tV
  tA := h.tA
  tB := h.tB
  tD := h.tD
  nS := h.nS
  nV := h.nV
  nA := h.nA
  nB := h.nB
  nD := h.nD
  capn := h.capn

theorem R.setD (h : R U A S w) {i : Nat} (hi : i < S.nb) (hl : S.live i = true) {j : Nat} (hj : j < K) (v : Int) : R U A { S with d := upd2 S.d i j v } (w.setCell ⟨A.db i, j, none⟩ (.int .u8 v)) where
  ub := fun k hk => by simpa [World.setCell] using h.ub k hk
  slab := fun q hq => (h.slab q hq).set_other _ (ne_block (by show A.db i ≠ A.sb; intro e; have := h.tS; rw [← e, h.tD i hi hl] at this; omega))
  vec := (Below.heap_setCell _ _ _ _ (Ne.symm (by show A.db i ≠ A.vb; intro e; have := h.tV; rw [← e, h.tD i hi hl] at this; omega))).trans h.vec
  ptr := fun q hq => (h.ptr q hq).set_other _ (ne_block (by show A.db i ≠ A.ab; intro e; have := h.tA (by omega); rw [← e, h.tD i hi hl] at this; omega))
  blk := fun k hk hlk q hq => (h.blk k hk hlk q hq).set_other _ (ne_block (by show A.db i ≠ A.bb k; intro e; have := h.tB k hk hlk; rw [← e, h.tD i hi hl] at this; omega))
  dat := fun k hk hlk q hq => by
    by_cases e : k = i ∧ q = j
    · obtain ⟨rfl, rfl⟩ := e
      have := (h.dat k hk hlk q hq).set_same (.int .u8 v)
      simpa [upd2, upd] using this
    · have hne : (⟨A.db i, j, none⟩ : Addr) ≠ ⟨A.db k, q, none⟩ := by
        intro e2
        simp only [Addr.mk.injEq, and_true] at e2
        have t1 := h.tD i hi hl
        rw [e2.1, h.tD k hk hlk] at t1
        exact e ⟨by omega, e2.2.symm⟩
      have h2 := (h.dat k hk hlk q hq).set_other (.int .u8 v) hne
      show Has _ _ (.int .u8 (upd2 S.d i j v k q))
      rw [upd2_other _ _ _ _ _ _ e]
      exact h2
  tS := h.tS
  tV := h.tV
  tA := h.tA
  tB := h.tB
  tD := h.tD
  nS := h.nS
  nV := h.nV
  nA := h.nA
  nB := h.nB
  nD := h.nD
  capn := h.capn

end

end Go.Proofs.Ybulkcqic
