/-
  THE PROOF OF 'Rows.LawS4604CScriptSaid', in the frame that the guide's tool wrote for its neighbour; the walk: YbulkcqicScript.lean.
-/
import Derived.Test.YbulkcqicScript
import Derived.Below
import Derived.Test.YbulkcqicRows
import Derived.WalkKit
import Derived.ProofKit
import Derived.OpenShut
import Derived.ShutString
import Derived.ChangeOld
import Derived.Deep.Slices
namespace Go.Proofs.Ybulkcqic.lawS4604CScript
open Go.ChangeShapes Go.WideShapes Go.ChangeAt Go.RowKit
open Go.ChangeMaps (open_string shut_string)
set_option linter.unusedVariables false

theorem own : ownKnob Yba.prog.godebug = none := by kernel_rfl
theorem laidOut : laidOutB Yba.prog = true := by kernel_rfl
theorem cells52 : Yba.prog.cellsOf 52 = 3 := by kernel_rfl
theorem cells5 : Yba.prog.cellsOf 5 = 1 := by kernel_rfl
theorem cells50 : Yba.prog.cellsOf 50 = 1 := by kernel_rfl

/-- What the slice that came in tells. -/
theorem ops_of {H : Type} {enc : TypeId × Value → H} {W : World} {sp : Nat → Bool} {hd : Bool} {fuel : Nat} {a0 : Option Addr} {len0 cap0 : Nat} {x : DataW H × List MemPlace}
    (hf : DataW.trod enc Yba.prog W 0 sp hd fuel 47 [.slice a0 len0 cap0] = some x) : ∃ op kk ii, IsOps W a0 len0 op kk ii := by
  rcases Deep.open_slice Yba.underlying47 hf with ⟨hcs, _⟩ | ⟨a, len, cap, m, n, D, Pl, hcs, _, hl, _, hmm, _, hx⟩
  · simp at hcs
    obtain ⟨rfl, rfl, rfl⟩ := hcs
    exact ⟨fun _ => 0, fun _ => 0, fun _ => 0, fun i hi => absurd hi (by omega)⟩
  · simp at hcs
    obtain ⟨rfl, rfl, rfl⟩ := hcs
    have hlm : len0 ≤ m := by rw [hmm]; split <;> omega
    have each : ∀ i, i < len0 → ∃ q : Nat × Nat × Nat, q.1 < 256 ∧ q.2.1 < 256 ∧ q.2.2 < 65536 ∧ W.cell? (a.add (i * 3)) = some (.int .u8 (q.1 : Int)) ∧ W.cell? (a.add (i * 3 + 1)) = some (.int .u8 (q.2.1 : Int)) ∧ W.cell? (a.add (i * 3 + 2)) = some (.int .u16 (q.2.2 : Int)) := fun i hi => by
      obtain ⟨cs', h1, h2⟩ := hx i (by omega)
      rw [cells52] at h1
      obtain ⟨_, hlen, hcell⟩ := World.cells?_some h1
      obtain ⟨xs, k, hk, hxy, _, hxl, hfl⟩ := DataW.trod_struct Yba.underlying52 h2
      match xs, hxl, cs', hlen with
      | [y0, y1, y2], _, [v0, v1, v2], _ =>
        have g0 := hfl 0 _ rfl
        have g1 := hfl 1 _ rfl
        have g2 := hfl 2 _ rfl
        simp [cells5, cells50] at g0 g1 g2
        have e0 := hcell 0 (by omega)
        have e1 := hcell 1 (by omega)
        have e2 := hcell 2 (by omega)
        rw [Deep.add_add] at e0 e1 e2
        obtain ⟨n0, f0, _, b0⟩ := DataW.trod_int Yba.underlying5 g0
        obtain ⟨n1, f1, _, b1⟩ := DataW.trod_int Yba.underlying5 g1
        obtain ⟨n2, f2, _, b2⟩ := DataW.trod_int Yba.underlying50 g2
        have b0 := bounds_u8 b0
        have b1 := bounds_u8 b1
        have b2 := bounds_u16 b2
        simp at f0 f1 f2 e0 e1 e2
        rw [f0] at e0
        rw [f1] at e1
        rw [f2] at e2
        obtain ⟨m0, rfl⟩ := Int.eq_ofNat_of_zero_le b0.1
        obtain ⟨m1, rfl⟩ := Int.eq_ofNat_of_zero_le b1.1
        obtain ⟨m2, rfl⟩ := Int.eq_ofNat_of_zero_le b2.1
        exact ⟨(m0, m1, m2), by simp; omega, by simp; omega, by simp; omega, e0, e1, e2⟩
    obtain ⟨q, hq⟩ := Deep.choose_lt each
    refine ⟨fun i => (q i).1, fun i => (q i).2.1, fun i => (q i).2.2, fun i hi => ?_⟩
    obtain ⟨q1, q2, q3, q4, q5, q6⟩ := hq i hi
    obtain ⟨_, _, _, z4, _⟩ := hq 0 (by omega)
    obtain ⟨_, _, _, _, hsp⟩ := World.shape?_of_cell? z4
    have hlt := World.block_lt_of_cell? W _ q4
    obtain ⟨b, o, s⟩ := a
    have hs : s = none := by
      cases s with
      | none => rfl
      | some s => simp [Addr.add] at hsp
    subst hs
    rw [Addr.add_mid] at q4 q5 q6 hlt
    exact ⟨b, o, rfl, hlt, q1, q2, q3, q4, by rw [← Nat.add_assoc] at q5; exact q5, by rw [← Nat.add_assoc] at q6; exact q6⟩

theorem walk (a0 : Option Addr) (len0 cap0 : Nat) (op kk ii : Nat → Nat) (w : World) (w0 : IsOps w a0 len0 op kk ii) :
    Calls Yba.prog 4 #[.slice a0 len0 cap0] w fun e w' => e = .returned (.bool true) ∧ Below w.heap.size w w' :=
  script_any w a0 len0 cap0 op kk ii w0

set_option maxRecDepth 100000 in
theorem lifted (os : Os) (started : os.Started) (H : Type) (enc : TypeId × Value → H) :
    ReturnsInHanded {} Yba.checked os 4 .any (Rows.lawS4604CScriptSpec.pre6 enc Yba.prog Yba.f4 Rows.lawS4604CScriptRow.domain false) (Rows.lawS4604CScriptSpec.post enc Yba.prog Yba.f4 false true false false) := by
  refine returnsInHanded_of_change (C := Yba.checked) own started (by kernel_rfl) Yba.func4
    (ChangeSpec.witness6 (enc := enc) (C := Yba.checked) false ⟨#[], #[.slice none 0 0], []⟩ 8 (by kernel_rfl) (by kernel_rfl) (by kernel_rfl) (by kernel_rfl)) ?_
  intro W base args ds gs before hval0 hW hcnd _
  have hval : ∀ (j : Nat) t v, Yba.f4.params[j]? = some t → args[j]? = some v → Value.okWide Yba.prog W .any base t v := hval0
  have hW' := hW
  obtain ⟨p, q, hA0, hV, rfl, hfz, hnd⟩ := hW
  have hA : DataW.TrodAll enc Yba.prog W 0 (fun _ => true) true Yba.f4.params.toList args.toList ds p := hA0
  rw [Yba.params4] at hA hval
  obtain ⟨v0, vs0, d0, ds0, p0, q0, hargs, rfl, rfl, h0, r0⟩ := trodAll_cons hA
  obtain ⟨rfl, rfl, rfl⟩ := trodAll_nil r0
  obtain rfl : args = #[v0] := by cases args; simp_all
  obtain ⟨rfl, rfl⟩ := trodVars_none hV
  obtain ⟨a0, len0, cap0, rfl⟩ := okWide_slice Yba.underlying47 (hval 0 47 v0 rfl rfl)
  have k0 := h0
  have lt0 : ∀ x ∈ p0, x.block < W.heap.size := by obtain ⟨m, hm⟩ := k0; exact DataW.trod_lt m _ _ _ hm
  obtain ⟨op, kk, ii, w0⟩ : ∃ op kk ii, IsOps W a0 len0 op kk ii := by
    obtain ⟨fuel, hf⟩ := h0
    exact ops_of hf
  clear hA0 hval0
  refine (walk a0 len0 cap0 op kk ii W w0).mono fun e W' ⟨he, bel⟩ => ?_
  subst he
  exact ⟨_, rfl, _, _, _, [], _, [], hW', trodAll_mk1 (shut_bool Yba.underlying4 _), (trodAll_cons_mk (Below.trod laidOut (by kernel_rfl) (of_decide_eq_true (by kernel_rfl)) k0 bel lt0) trodAll_mk0), rfl, bel.frame _, fun h => by cases h⟩

theorem over : Rows.lawS4604CScriptRow.holds Yba.pinned (OpenSpec.ofChange Rows.lawS4604CScriptSpec) :=
  OpenClaim.holds_of_wide 4 Yba.f4 rfl rfl rfl rfl rfl rfl rfl ⟨rfl, rfl, rfl, rfl, rfl⟩ rfl rfl rfl rfl rfl (by kernel_rfl) Yba.func4 (by kernel_rfl)
    (of_decide_eq_true (by kernel_rfl)) (by unfold Func.isWrapper; first | (rw [if_pos (by decide +kernel)]; kernel_rfl) | (rw [if_neg (by decide +kernel)]; exact ⟨rfl, rfl⟩))
    (fun os started H enc _ => lifted os started H enc)

/-- ████ THE STATEMENT ████ -/
theorem proved : Rows.LawS4604CScriptSaid := over
end Go.Proofs.Ybulkcqic.lawS4604CScript
