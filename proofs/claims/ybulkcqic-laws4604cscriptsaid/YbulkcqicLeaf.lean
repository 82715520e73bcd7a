/-
  The leaves: the atomic pointer, block, page, chunk, the two byte functions, the size number.
-/
import Derived.Test.YbulkcqicState
import Derived.Laws.LoneSync
namespace Go.Proofs.Ybulkcqic
open Go.RowKit Go.Extern

theorem Yba.call28 (args : Array Value) (w : World) : (callFunc 28 args).run Yba.prog w = ((Extern.Atomic.loadT .ptr args).run Yba.prog w).andThen fun v w' => .ok (.value v) w' :=
  run_callFunc_extern Yba.func28 (by kernel_rfl) (by kernel_rfl) (by kernel_rfl) (by kernel_rfl) args w
theorem Yba.call23 (args : Array Value) (w : World) : (callFunc 23 args).run Yba.prog w = ((Extern.Atomic.storeT args).run Yba.prog w).andThen fun v w' => .ok (.value v) w' :=
  run_callFunc_extern Yba.func23 (by kernel_rfl) (by kernel_rfl) (by kernel_rfl) (by kernel_rfl) args w

theorem Yba.info57 : (Yba.prog.info? 57).map (fun i => decide (i.size = 0)) = some false := by kernel_rfl
theorem Yba.lies57 : liesAt Yba.prog Yba.prog.depth 57 (1 / Yba.prog.cellsOf 57) 0 57 1 = true := by kernel_rfl

theorem conv_to (a : Addr) (x : Value) (w : World) (ha : w.cell? a = some x) : (convert 30 34 (.pointer (some a))).run Yba.prog w = .ok (.pointer (some a)) w := by
  obtain ⟨e, n, hsh, hlt, hsp⟩ := World.shape?_of_cell? ha
  obtain ⟨i, hi, hz0⟩ := Option.map_eq_some_iff.1 Yba.info57
  have hz : i.size ≠ 0 := by simpa using hz0
  have hge : ¬ (n ≤ a.off) := by omega
  simp [convert, run_underlying Yba.underlying30, run_underlying Yba.underlying34]
  change Sem.run Yba.prog (underlying 30 >>= _) w = _
  simp [Conv.seenAt, viewAt, cellsIn, sizeOf, typeInfo, run_underlying Yba.underlying30, run_underlying Yba.underlying34, hi, hz, hsh, hge, Result.andThen]
theorem conv_from (vb : Nat) (x : Value) (w : World) (hv : w.heap[vb]? = some (.cells #[x] 57 (0, 0))) : (convert 34 30 (.pointer (some ⟨vb, 0, none⟩))).run Yba.prog w = .ok (.pointer (some ⟨vb, 0, none⟩)) w := by
  obtain ⟨j, hj, _⟩ := Option.map_eq_some_iff.1 Yba.info57
  have hsh : w.shape? vb = some (57, 1) := by simp [World.shape?, hv]
  simp [convert, run_underlying Yba.underlying30, run_underlying Yba.underlying34]
  change Sem.run Yba.prog (underlying 34 >>= _) w = _
  simp [Conv.seenAt, viewAt, variablesAt, sizeOf, typeInfo, run_underlying Yba.underlying30, run_underlying Yba.underlying34, hj, hsh, Yba.lies57]

/-- Load of the atomic pointer that the slabs begin with. -/
theorem load_any (sb vb : Nat) (x : Value) (w : World) (h : w.cell? ⟨sb, 0, none⟩ = some (.pointer (some ⟨vb, 0, none⟩))) (hv : w.heap[vb]? = some (.cells #[x] 57 (0, 0))) :
    Calls Yba.prog 22 #[.pointer (some ⟨sb, 0, none⟩)] w fun e w' => e = .returned (.pointer (some ⟨vb, 0, none⟩)) ∧ w' = w := by
  have h28 := Yba.call28
  have hr : (Extern.Atomic.loadT .ptr #[.pointer (some ⟨sb, 0, none⟩)]).run Yba.prog w = .ok (.pointer (some ⟨vb, 0, none⟩)) w := by
    have e : Extern.Atomic.loadT .ptr #[.pointer (some ⟨sb, 0, none⟩)] = (do Extern.Atomic.read .ptr (← asAddr (.pointer (some ⟨sb, 0, none⟩)))) := rfl
    have ea : (asAddr (.pointer (some ⟨sb, 0, none⟩))).run Yba.prog w = .ok ⟨sb, 0, none⟩ w := rfl
    rw [e]
    simp [ea, Extern.Atomic.read, run_load, h]
  have hcv := conv_from vb x w hv
  go_enter Yba.func22, Yba.ntmps22
  go_wp2
  go_ret
  exact ⟨rfl, rfl⟩

/-- Store into it. -/
theorem store_any (sb : Nat) (v : Option Addr) (a : Addr) (x : Value) (w : World) (h : w.cell? ⟨sb, 0, none⟩ = some (.pointer v)) (hf : w.frozen? ⟨sb, 0, none⟩ = false) (ha : w.cell? a = some x) :
    Calls Yba.prog 10 #[.pointer (some ⟨sb, 0, none⟩), .pointer (some a)] w fun e w' => e = .returned (.tuple #[]) ∧ w' = w.setCell ⟨sb, 0, none⟩ (.pointer (some a)) := by
  have h23 := Yba.call23
  have hr : (Extern.Atomic.storeT #[.pointer (some ⟨sb, 0, none⟩), .pointer (some a)]).run Yba.prog w = .ok (.tuple #[]) (w.setCell ⟨sb, 0, none⟩ (.pointer (some a))) := by
    have e : Extern.Atomic.storeT #[.pointer (some ⟨sb, 0, none⟩), .pointer (some a)] = (do store (← asAddr (.pointer (some ⟨sb, 0, none⟩))) (.pointer (some a)) .atomic; pure Extern.Atomic.none_) := rfl
    have ea : (asAddr (.pointer (some ⟨sb, 0, none⟩))).run Yba.prog w = .ok ⟨sb, 0, none⟩ w := rfl
    rw [e]
    simp [ea, Extern.Atomic.none_, run_store_pointer, stored, h, hf]
  have hcv := conv_to a x w ha
  go_enter Yba.func10, Yba.ntmps10
  go_wp2
  go_end0
  exact ⟨rfl, rfl⟩

section
variable {U : Nat → Prop} {A : Ad} {S : St} {w : World}

/-- Page p lies in a block that is held. -/
def Live (S : St) (p : Nat) : Prop := p / 8 < S.nb ∧ S.live (p / 8) = true

theorem block_any (h : R U A S w) (p : Nat) (hp : Live S p) (hb : p < 1000000) :
    Calls Yba.prog 16 #[.pointer (some ⟨A.sb, 0, none⟩), .int .i32 p] w fun e w' => e = .returned (.pointer (some ⟨A.bb (p / 8), 0, none⟩)) ∧ w' = w := by
  have h0 : w.cell? ⟨A.sb, 0, none⟩ = some (.pointer (some ⟨A.vb, 0, none⟩)) := (h.slab 0 (by omega)).1
  have hv := h.vec
  rw [vecV, if_neg (by have := hp.1; omega)] at hv
  have h1 : w.cell? ⟨A.vb, 0, none⟩ = some (.slice (some ⟨A.ab, 0, none⟩) S.nb A.cap) := by simp [World.cell?, hv]
  have h2 : w.cell? ⟨A.ab, p / 8, none⟩ = some (.pointer (some ⟨A.bb (p / 8), 0, none⟩)) := by
    have := (h.ptr (p / 8) hp.1).1
    rwa [ptrV, hp.2, if_pos rfl] at this
  have hq := hp.1
  have i0 : (0 : Int) ≤ ((p / 8 : Nat) : Int) := by omega
  have i1 : ((p / 8 : Nat) : Int) < (S.nb : Int) := by omega
  go_enter Yba.func16, Yba.ntmps16
  go_wp2_with fail
  refine (load_any A.sb A.vb _ w h0 hv).mono ?_
  rintro e w' ⟨rfl, rfl⟩
  go_wp2
  go_ret
  exact ⟨rfl, rfl⟩

theorem page_any (h : R U A S w) (p : Nat) (hp : Live S p) (hb : p < 1000000) :
    Calls Yba.prog 17 #[.pointer (some ⟨A.sb, 0, none⟩), .int .i32 p] w fun e w' => e = .returned (.pointer (some ⟨A.bb (p / 8), 1 + p % 8 * 6, none⟩)) ∧ w' = w := by
  have i0 : (0 : Int) ≤ ((p % 8 : Nat) : Int) := by omega
  have i1 : ((p % 8 : Nat) : Int) < 8 := by omega
  go_enter Yba.func17, Yba.ntmps17
  go_wp2_with fail
  refine (block_any h p hp hb).mono ?_
  rintro e w' ⟨rfl, rfl⟩
  go_wp2
  go_ret
  exact ⟨rfl, rfl⟩

theorem slice_run (db at0 sz : Nat) (hs : 0 < sz) (h : at0 + sz ≤ K) : ∀ w : World, (Instr.slice 49 (.slice (some ⟨db, 0, none⟩) K K) (some (.int .i64 (at0 : Int))) (some (.int .i64 ((at0 : Int) + (sz : Int)))) none).run Yba.prog w = .ok (.slice (some ⟨db, at0, none⟩) sz (K - at0)) w := by
  intro w
  have hk : K ≤ 131072 := Nat.le_refl _
  have t0 : (0 : Int) ≤ at0 := by omega
  have t1 : (at0 : Int) ≤ (at0 : Int) + (sz : Int) := by omega
  have t2 : (at0 : Int) + (sz : Int) ≤ (K : Int) := by omega
  generalize K = k at *
  go_simp
  exact ⟨fun e => by omega, by omega⟩

/-- Chunk i, of sz bytes, of page p. -/
theorem chunk_any (h : R U A S w) (p i sz : Nat) (hp : Live S p) (hb : p < 1000000) (h0z : 0 < sz) (hz : i * sz + sz ≤ 16384) :
    Calls Yba.prog 20 #[.pointer (some ⟨A.sb, 0, none⟩), .int .i32 p, .int .i64 i, .int .i64 sz] w fun e w' => e = .returned (.slice (some ⟨A.db (p / 8), p % 8 * 16384 + i * sz, none⟩) sz (K - (p % 8 * 16384 + i * sz))) ∧ w' = w := by
  have h0 : w.cell? ⟨A.bb (p / 8), 0, none⟩ = some (.slice (some ⟨A.db (p / 8), 0, none⟩) K K) := (h.blk (p / 8) hp.1 hp.2 0 (by omega)).1
  go_enter Yba.func20, Yba.ntmps20
  go_upto_region 1 with fail
  go_cut [9] from 10 to 17 (fun v wx => ∃ o : Nat, v = .int .i64 (o : Int) ∧ Hid (o = p % 8 * 16384 + i * sz) ∧ wx = w)
  case first =>
    go_wp2
    go_meet
    case rel => exact ⟨p % 8 * 16384 + i * sz, by simp, rfl, rfl⟩
  case rest =>
  obtain ⟨at0, rfl, hat0, rfl⟩ := hcut
  have hat : at0 + sz ≤ K := by have := hat0.out; unfold K; omega
  have hat2 : at0 + sz ≤ 131072 := hat
  have hsl := slice_run (A.db (p / 8)) at0 sz h0z hat
  go_wp2_with fail
  refine (block_any h p hp hb).mono ?_
  rintro e w' ⟨rfl, rfl⟩
  go_wp2
  go_ret
  exact ⟨by rw [← hat0.out]; rfl, rfl⟩

theorem class_any (c : Nat) (hc : c < 64) (w : World) : Calls Yba.prog 13 #[.int .i64 ((8 * (c + 1) : Nat) : Int)] w fun e w' => e = .returned (.int .i64 c) ∧ w' = w := by
  have t0 : decide (((8 * (c + 1) : Nat) : Int) ≤ 512) = true := by simp; omega
  go_enter Yba.func13, Yba.ntmps13
  set_option maxRecDepth 4000 in go_wp2
  go_ret
  exact ⟨rfl, rfl⟩

end
end Go.Proofs.Ybulkcqic
