/-
  THE PROOF OF 'Rows.LawS4605ARoundTripSaid', in the frame that the guide's tool writes for such functions (a []byte and a []string).
-/
import Derived.Test.YbulkcqiqRound
import Derived.ProofKit
import Derived.OpenShut
import Derived.ShutString
import Derived.ChangeOld
import Derived.Below
import Derived.SliceStrings
namespace Go.Proofs.Ybulkcqiq.lawS4605ARoundTrip
open Go.ChangeShapes Go.WideShapes Go.ChangeAt Go.RowKit
set_option linter.unusedVariables false

theorem own : ownKnob Yba.prog.godebug = none := by kernel_rfl
theorem laidOut : laidOutB Yba.prog = true := by kernel_rfl

/-- What the walk is told of buf. -/
theorem buf_of {W : World} {a : Option Addr} {len cap : Nat} {zs : List Int}
    (h : (a = none ∧ len = 0 ∧ cap = 0) ∨ ∃ x, a = some x ∧ len ≤ cap ∧ zs.length = cap ∧ ∀ i, i < zs.length → W.cell? (x.add i) = some (.int .u8 (zs.getD i 0))) :
    ∃ vs, IsBuf W a len cap vs := by
  rcases h with ⟨rfl, rfl, rfl⟩ | ⟨x, rfl, hl, hz, hc⟩
  · exact ⟨[], rfl, fun j hj => absurd hj (by omega), fun _ => ⟨rfl, rfl⟩, fun x hx => by cases hx⟩
  · refine ⟨(zs.take len).map (.int .u8), by simp; omega, fun j hj => ⟨zs.getD j 0, ?_⟩, fun h => (by cases h), fun y hy j u hu => ?_⟩
    · rw [List.getElem?_map, List.getElem?_take, if_pos hj, List.getElem?_eq_getElem (by omega)]
      rw [List.getD_eq_getElem?_getD, List.getElem?_eq_getElem (by omega)]
      rfl
    · obtain rfl := Option.some.inj hy
      rw [List.getElem?_map] at hu
      obtain ⟨z, hz2, rfl⟩ := Option.map_eq_some_iff.1 hu
      rw [List.getElem?_take] at hz2
      by_cases hj : j < len
      · rw [if_pos hj] at hz2
        rw [hc j (by omega), List.getD_eq_getElem?_getD, hz2]
        rfl
      · rw [if_neg hj] at hz2
        cases hz2

/-- What the walk is told of strs. -/
theorem strs_of {W : World} {a : Option Addr} {len cap : Nat} {ss : List ByteArray}
    (h : (a = none ∧ len = 0) ∨ ∃ x, a = some x ∧ len ≤ cap ∧ ss.length = cap ∧ (∀ i, i < ss.length → W.cell? (x.add i) = some (.string (ss.getD i ByteArray.empty))) ∧ ∀ s ∈ ss, s.size ≤ maxLen) :
    ∃ ts, IsStrs W a len ts := by
  rcases h with ⟨rfl, rfl⟩ | ⟨x, rfl, hl, hz, hc, hs⟩
  · exact ⟨[], rfl, fun h => absurd h (by omega), fun s hs => by cases hs⟩
  · refine ⟨ss.take len, by simp; omega, fun h0 => ?_, fun s h => hs s (List.mem_of_mem_take h)⟩
    have h1 := hc 0 (by omega)
    obtain ⟨b, off, spot⟩ := x
    have hspot : spot = Option.none := by simpa [Addr.add] using World.cell?_spot h1
    subst hspot
    refine ⟨b, off, rfl, fun j hj => ?_⟩
    have := hc j (by omega)
    rw [Addr.add_lit] at this
    rw [this]
    simp [hj]

theorem walk (a0 : Option Addr) (len0 cap0 : Nat) (z0 : List Value) (a1 : Option Addr) (len1 cap1 : Nat) (s1 : List ByteArray) (w : World) (w0 : IsBuf w a0 len0 cap0 z0) (w1 : IsStrs w a1 len1 s1) (m0 : len0 ≤ maxLen) (m1 : len1 ≤ maxLen) :
    Calls Yba.prog 4 #[.slice a0 len0 cap0, .slice a1 len1 cap1] w fun e w' => e = .returned (.bool true) ∧ Below w.heap.size w w' := by
  by_cases h0 : len0 ≤ 1024
  · by_cases h1 : len1 ≤ 1024
    · exact round_small a0 len0 cap0 z0 a1 len1 cap1 s1 w h0 h1 w0 w1
    · exact round_great a0 len0 cap0 a1 len1 cap1 w m0 m1 (by omega)
  · exact round_great a0 len0 cap0 a1 len1 cap1 w m0 m1 (by omega)

set_option maxRecDepth 100000 in
theorem lifted (os : Os) (started : os.Started) (H : Type) (enc : TypeId × Value → H) :
    ReturnsInHanded {} Yba.checked os 4 .any (Rows.lawS4605ARoundTripSpec.pre6 enc Yba.prog Yba.f4 Rows.lawS4605ARoundTripRow.domain false) (Rows.lawS4605ARoundTripSpec.post enc Yba.prog Yba.f4 false true false false) := by
  refine returnsInHanded_of_change (C := Yba.checked) own started (by kernel_rfl) Yba.func4
    (ChangeSpec.witness6 (enc := enc) (C := Yba.checked) false ⟨#[], #[.slice none 0 0, .slice none 0 0], []⟩ 8 (by kernel_rfl) (by kernel_rfl) (by kernel_rfl) (by kernel_rfl)) ?_
  intro W base args ds gs before hval0 hW hcnd _
  have hval : ∀ (j : Nat) t v, Yba.f4.params[j]? = some t → args[j]? = some v → Value.okWide Yba.prog W .any base t v := hval0
  have hW' := hW
  obtain ⟨p, q, hA0, hV, rfl, hfz, hnd⟩ := hW
  have hA : DataW.TrodAll enc Yba.prog W 0 (fun _ => true) true Yba.f4.params.toList args.toList ds p := hA0
  rw [Yba.params4] at hA hval
  obtain ⟨v0, vs0, d0, ds0, p0, q0, hargs, rfl, rfl, h0, r0⟩ := trodAll_cons hA
  obtain ⟨v1, vs1, d1, ds1, p1, q1, rfl, rfl, rfl, h1, r1⟩ := trodAll_cons r0
  obtain ⟨rfl, rfl, rfl⟩ := trodAll_nil r1
  obtain rfl : args = #[v0, v1] := by cases args; simp_all
  obtain ⟨rfl, rfl⟩ := trodVars_none hV
  obtain ⟨a0, len0, cap0, rfl⟩ := okWide_slice Yba.underlying22 (hval 0 22 v0 rfl rfl)
  obtain ⟨a1, len1, cap1, rfl⟩ := okWide_slice Yba.underlying23 (hval 1 23 v1 rfl rfl)
  have k0 := h0
  have k1 := h1
  have lt0 : ∀ x ∈ p0, x.block < W.heap.size := by obtain ⟨m, hm⟩ := k0; exact DataW.trod_lt m _ _ _ hm
  have lt1 : ∀ x ∈ p1, x.block < W.heap.size := by obtain ⟨m, hm⟩ := k1; exact DataW.trod_lt m _ _ _ hm
  obtain ⟨z0, w0, m0⟩ : ∃ zs, IsBuf W a0 len0 cap0 zs ∧ len0 ≤ maxLen := by
    obtain ⟨fuel, hf⟩ := h0
    rcases open_ints Yba.underlying22 Yba.underlying5 (by kernel_rfl) hf with ⟨hcs, _⟩ | ⟨x, l, c, zs, hcs, _, hl, hm, hz, _, hcell, hwz⟩
    · simp [Value.cells] at hcs
      obtain ⟨rfl, rfl, rfl⟩ := hcs
      obtain ⟨vs, h⟩ := buf_of (W := W) (zs := []) (.inl ⟨rfl, rfl, rfl⟩)
      exact ⟨vs, h, by unfold maxLen; omega⟩
    · simp [Value.cells] at hcs
      obtain ⟨rfl, rfl, rfl⟩ := hcs
      obtain ⟨vs, h⟩ := buf_of (W := W) (zs := zs) (.inr ⟨_, rfl, hl, by simpa using hz, hcell⟩)
      exact ⟨vs, h, by omega⟩
  obtain ⟨s1, w1, m1⟩ : ∃ ss, IsStrs W a1 len1 ss ∧ len1 ≤ maxLen := by
    obtain ⟨fuel, hf⟩ := h1
    rcases open_strings Yba.underlying23 Yba.underlying9 (by kernel_rfl) hf with ⟨hcs, _⟩ | ⟨x, l, c, ss, hcs, _, hl, hm, hz, _, hcell, hws⟩
    · simp [Value.cells] at hcs
      obtain ⟨rfl, rfl, rfl⟩ := hcs
      obtain ⟨ts, h⟩ := strs_of (W := W) (cap := 0) (ss := []) (.inl ⟨rfl, rfl⟩)
      exact ⟨ts, h, by unfold maxLen; omega⟩
    · simp [Value.cells] at hcs
      obtain ⟨rfl, rfl, rfl⟩ := hcs
      obtain ⟨ts, h⟩ := strs_of (W := W) (ss := ss) (.inr ⟨_, rfl, hl, by simpa using hz, hcell, hws⟩)
      exact ⟨ts, h, by omega⟩
  clear hA0 hval0
  refine (walk a0 len0 cap0 z0 a1 len1 cap1 s1 W w0 w1 m0 m1).mono fun e W' ⟨he, bel⟩ => ?_
  subst he
  exact ⟨_, rfl, _, _, _, [], _, [], hW', trodAll_mk1 (shut_bool Yba.underlying4 _), (trodAll_cons_mk (Below.trod laidOut (by kernel_rfl) (of_decide_eq_true (by kernel_rfl)) k0 bel lt0) (trodAll_cons_mk (Below.trod laidOut (by kernel_rfl) (of_decide_eq_true (by kernel_rfl)) k1 bel lt1) trodAll_mk0)), rfl, bel.frame _, fun h => by cases h⟩

theorem over : Rows.lawS4605ARoundTripRow.holds Yba.pinned (OpenSpec.ofChange Rows.lawS4605ARoundTripSpec) :=
  OpenClaim.holds_of_wide 4 Yba.f4 rfl rfl rfl rfl rfl rfl rfl ⟨rfl, rfl, rfl, rfl, rfl⟩ rfl rfl rfl rfl rfl (by kernel_rfl) Yba.func4 (by kernel_rfl)
    (of_decide_eq_true (by kernel_rfl)) (by unfold Func.isWrapper; first | (rw [if_pos (by decide +kernel)]; kernel_rfl) | (rw [if_neg (by decide +kernel)]; exact ⟨rfl, rfl⟩))
    (fun os started H enc _ => lifted os started H enc)

/-- ████ THE STATEMENT ████ -/
theorem proved : Rows.LawS4605ARoundTripSaid := over
end Go.Proofs.Ybulkcqiq.lawS4605ARoundTrip
