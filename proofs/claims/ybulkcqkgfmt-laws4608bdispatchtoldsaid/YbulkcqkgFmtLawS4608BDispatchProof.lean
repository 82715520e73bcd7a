/-
  THE PROOF OF 'Rows.LawS4608BDispatchToldSaid': the told and tied card. (The told text is not needed: whatever fmt writes, the wrapped error stands in the new error's second cell.)
-/
import Derived.Test.YbulkcqkgFmtTop
import Derived.Test.YbulkcqkgFmtTie
import Derived.Test.YbulkcqkgFmtCards
import Derived.ProofKit
import Derived.OpenShut
import Derived.ShutString
import Derived.ChangeOld
import Derived.Below
import Derived.SliceStrings
import Derived.Stop.JoinedAt
import Derived.Stop.Texts
import Derived.Stop.LaidErr
import Derived.Stop.JoinedTold
import Derived.SevenTiedAt
namespace Go.Proofs.YbulkcqkgFmt.lawS4608BDispatch
open Go.ChangeShapes Go.WideShapes Go.ChangeAt Go.RowKit Go.Kit
open Go.Extern.Stop Go.Stop Go.Extern

theorem own : ownKnob Ybaf.prog.godebug = none := by kernel_rfl
theorem laidOut : laidOutB Ybaf.pinned.checked.prog = true := by kernel_rfl
theorem stops : Ybaf.pinned.checked.prog.stops = ["fmt.errorf"] := by kernel_rfl
theorem stopKnobs : Ybaf.pinned.checked.prog.stopKnobs = [] := by kernel_rfl
theorem quiet (os : Os) : Stop.quiet Ybaf.pinned.checked.prog os := by
  intro k hk
  rw [stopKnobs] at hk
  cases hk
/-- The listed variable's name, and the name of the type of what it holds, off the given row. -/
abbrev vN : String := (Rows.lawS4608BDispatchRow.laid.map (·.1)).headD ""
def dynName : DataW Unit → String
  | .iface nm _ => nm
  | _ => ""
abbrev eN : String := dynName Rows.laid_example_com_tideover_tideover_records_ErrNotUTF8
theorem gN : Ybaf.prog.globalNamed vN = some 0 := by kernel_rfl
theorem gT : (Ybaf.prog.globals[0]?).map (·.type) = some 31 := by kernel_rfl
theorem cells41 : Ybaf.prog.cellsOf 41 = 1 := by kernel_rfl
theorem cells9 : Ybaf.prog.cellsOf 9 = 1 := by kernel_rfl
theorem row39 (u : TypeId) (h : Ybaf.prog.typeName? 3 u = some eN) : u = 39 :=
  typeName_ptr_named (nm := "errors.errorString") (by kernel_rfl) (by kernel_rfl) (by decide) u (h.trans (congrArg some (by kernel_rfl)))

/-- What 'laid' gives at one sentinel, with its row of cells. -/
theorem sentinel {W : World} {r : List (String × DataW Unit)} {n : String} {text : List UInt8}
    (h : laidMet Ybaf.prog ((n, .iface eN (.ptr (.agg [.lit (.string text)]))) :: r) W) (hg : Ybaf.prog.globalNamed n = some 0) :
    ∃ (a : Addr) (s : ByteArray) (c : Array Value) (t : TypeId), W.var? Ybaf.prog n = some #[.iface 39 (.pointer (some a))] ∧ W.cell? a = some (.string s) ∧ W.heap[a.block]? = some (.cells c t (0, 0)) := by
  obtain ⟨ps, ⟨g0, t0, cs0, f0, p0, q0, hg0, ht0, hv0, hd0, _, e0⟩, _, hrows⟩ := h
  obtain rfl := Option.some.inj (hg.symm.trans hg0)
  obtain rfl := Option.some.inj (gT.symm.trans ht0)
  subst e0
  obtain ⟨l0⟩ := cs0
  have ok0 : ∀ u v, l0 = [.iface u v] → Value.okWide Ybaf.prog W .any 0 u v := fun u v e => by
    subst e
    exact (hrows 0 0 (by simp [MemPlace.row])).2 u v (by simpa using World.var?_cell hg0 hv0 0)
  obtain ⟨a0, s0, rfl, hc0, hs0, hz0, rfl⟩ := errorString_of_trod Ybaf.underlying31 row39 Ybaf.underlying39 Ybaf.underlying41 rfl rfl Ybaf.underlying9 cells41 cells9 hd0 ok0
  obtain ⟨c0, t0, hb0⟩ := (hrows a0.block a0.off (by simp [MemPlace.row])).1
  exact ⟨a0, s0, c0, t0, hv0, hc0, hb0⟩

theorem var_below {W W' : World} {n : String} {cs : Array Value} (h : Below W.heap.size W W') (hg : Ybaf.prog.globalNamed n = some 0) (hv : W.var? Ybaf.prog n = some cs) : W'.var? Ybaf.prog n = some cs := by
  have hlt : 0 < W.heap.size := by
    rcases Nat.lt_or_ge 0 W.heap.size with h' | h'
    · exact h'
    · simp [World.var?, hg, Array.getElem?_eq_none h'] at hv
  rw [← hv]
  simp only [World.var?, hg, Option.bind_some, h.block 0 hlt]

abbrev textS : ByteArray := { data := #[110, 111, 116, 32, 85, 84, 70, 45, 56, 32, 116, 101, 120, 116] }
def low (P : Program) : Nat := (World.holding P default ⟨#[], #[], []⟩).heap.size
def laidWorld (P : Program) (os : Os) : World :=
  let w0 := World.holding P os ⟨#[.cells #[.string textS] 41], #[], []⟩
  { w0 with heap := w0.heap.modify 0 fun
      | .cells _ t frozen => .cells #[.iface 39 (.pointer (some ⟨low P, 0, none⟩))] t frozen
      | o => o }
theorem laid_met (os : Os) (args : Array Value) : laidMet Ybaf.prog Rows.lawS4608BDispatchRow.laid ((laidWorld Ybaf.prog os).forCall (fun _ _ => 0) ⟨#[], args, []⟩).memory :=
  laidMet_of_run (ps := [.cell 0 0, .cell (low Ybaf.prog) 0]) 8 (by kernel_rfl) (by kernel_rfl) (by kernel_rfl)

/-- What the walk is told of a []string. -/
theorem strs_of {W : World} {a : Option Addr} {len cap : Nat} {ss : List ByteArray}
    (h : (a = none ∧ len = 0) ∨ ∃ x, a = some x ∧ len ≤ cap ∧ ss.length = cap ∧ (∀ i, i < ss.length → W.cell? (x.add i) = some (.string (ss.getD i ByteArray.empty)))) :
    ∃ ts, IsStrs W a len ts := by
  rcases h with ⟨rfl, rfl⟩ | ⟨x, rfl, hl, hz, hc⟩
  · exact ⟨[], rfl, fun h => absurd h (by omega)⟩
  · refine ⟨ss.take len, by simp; omega, fun h0 => ?_⟩
    have h1 := hc 0 (by omega)
    obtain ⟨b, off, spot⟩ := x
    have hspot : spot = Option.none := by simpa [Addr.add] using World.cell?_spot h1
    subst hspot
    refine ⟨b, off, rfl, fun j hj => ?_⟩
    have := hc j (by omega)
    rw [Addr.add_lit] at this
    rw [this]
    simp [hj]

set_option maxRecDepth 100000 in
theorem lifted (os : Os) (started : os.Started) (H : Type) (enc : TypeId × Value → H) :
    ReturnsInTold none {} Ybaf.checked os 3 .any Input.okWide ((OpenSpec.ofChange Rows.lawS4608BDispatchSpec).preRow enc Ybaf.prog Ybaf.f3 [] false Rows.lawS4608BDispatchRow.laid) (fun F => ((OpenSpec.ofChange Rows.lawS4608BDispatchSpec).at F).post enc Ybaf.prog Ybaf.f3 false true false false) (aloneAtReturn Ybaf.prog) nothingAlways := by
  refine returnsInTold_of_row (C := Ybaf.checked) (s := OpenSpec.ofChange Rows.lawS4608BDispatchSpec) (by kernel_rfl) own started (by kernel_rfl) Ybaf.func3
    (OpenSpec.witness_stopped_at (enc := enc) (C := Ybaf.checked) false (laidWorld Ybaf.prog os) #[.string ByteArray.empty, .slice none 0 0, .int .i64 0, .int .i64 0, .int .u8 0, .int .u64 0, .slice none 0 0, .bool false] rfl (by kernel_rfl) (by kernel_rfl) (by kernel_rfl)
      (OpenSpec.preRow_of_B rfl 8 (by kernel_rfl) (by kernel_rfl) (laid_met os _))) ?_
  intro F W base args ds gs before _ hF hval0 hW _ _ _ hL _
  have hval : ∀ (j : Nat) t v, Ybaf.f3.params[j]? = some t → args[j]? = some v → Value.okWide Ybaf.prog W .any base t v := hval0
  have hW' := hW
  obtain ⟨p, q, hA0, hV0, rfl, hfz, hnd⟩ := hW
  have hA : DataW.TrodAll enc Ybaf.prog W 0 (fun _ => true) true Ybaf.f3.params.toList args.toList ds p := hA0
  have hV : DataW.TrodVars enc Ybaf.prog W (fun _ => true) [vN] gs q := hV0
  rw [Ybaf.params3] at hA hval
  obtain ⟨v0, vs0, d0, ds0, p0, q0, hargs, rfl, rfl, h0, r0⟩ := trodAll_cons hA
  obtain ⟨v1, vs1, d1, ds1, p1, q1, rfl, rfl, rfl, h1, r1⟩ := trodAll_cons r0
  obtain ⟨v2, vs2, d2, ds2, p2, q2, rfl, rfl, rfl, h2, r2⟩ := trodAll_cons r1
  obtain ⟨v3, vs3, d3, ds3, p3, q3, rfl, rfl, rfl, h3, r3⟩ := trodAll_cons r2
  obtain ⟨v4, vs4, d4, ds4, p4, q4, rfl, rfl, rfl, h4, r4⟩ := trodAll_cons r3
  obtain ⟨v5, vs5, d5, ds5, p5, q5, rfl, rfl, rfl, h5, r5⟩ := trodAll_cons r4
  obtain ⟨v6, vs6, d6, ds6, p6, q6, rfl, rfl, rfl, h6, r6⟩ := trodAll_cons r5
  obtain ⟨v7, vs7, d7, ds7, p7, q7, rfl, rfl, rfl, h7, r7⟩ := trodAll_cons r6
  obtain ⟨rfl, rfl, rfl⟩ := trodAll_nil r7
  obtain rfl : args = #[v0, v1, v2, v3, v4, v5, v6, v7] := by cases args; simp_all
  obtain ⟨ga, gs1, gc, gT1, hv1, hca, hbk⟩ := sentinel hL gN
  obtain ⟨rfl, rfl⟩ := hV.unique (vars_read1 enc gN gT Ybaf.underlying31 hv1 trivial _)
  have hg0 : W.cell? ⟨0, 0, none⟩ = some (.iface 39 (.pointer (some ga))) := by simpa using World.var?_cell gN hv1 0
  obtain ⟨nm, rfl⟩ := okWide_string Ybaf.underlying9 (hval 0 9 v0 rfl rfl)
  obtain ⟨a1, len1, cap1, rfl⟩ := okWide_slice Ybaf.underlying22 (hval 1 22 v1 rfl rfl)
  obtain ⟨line, rfl⟩ := okWide_int Ybaf.underlying3 (hval 2 3 v2 rfl rfl)
  obtain ⟨bef, rfl⟩ := okWide_int Ybaf.underlying3 (hval 3 3 v3 rfl rfl)
  obtain ⟨a6, len6, cap6, rfl⟩ := okWide_slice Ybaf.underlying22 (hval 6 22 v6 rfl rfl)
  obtain ⟨fl, rfl⟩ := okWide_bool Ybaf.underlying4 (hval 7 4 v7 rfl rfl)
  have k0 := h0
  have lt0 : ∀ x ∈ p0, x.block < W.heap.size := by obtain ⟨m, hm⟩ := k0; exact DataW.trod_lt m _ _ _ hm
  have k1 := h1
  have lt1 : ∀ x ∈ p1, x.block < W.heap.size := by obtain ⟨m, hm⟩ := k1; exact DataW.trod_lt m _ _ _ hm
  have k2 := h2
  have lt2 : ∀ x ∈ p2, x.block < W.heap.size := by obtain ⟨m, hm⟩ := k2; exact DataW.trod_lt m _ _ _ hm
  have k3 := h3
  have lt3 : ∀ x ∈ p3, x.block < W.heap.size := by obtain ⟨m, hm⟩ := k3; exact DataW.trod_lt m _ _ _ hm
  have k4 := h4
  have lt4 : ∀ x ∈ p4, x.block < W.heap.size := by obtain ⟨m, hm⟩ := k4; exact DataW.trod_lt m _ _ _ hm
  have k5 := h5
  have lt5 : ∀ x ∈ p5, x.block < W.heap.size := by obtain ⟨m, hm⟩ := k5; exact DataW.trod_lt m _ _ _ hm
  have k6 := h6
  have lt6 : ∀ x ∈ p6, x.block < W.heap.size := by obtain ⟨m, hm⟩ := k6; exact DataW.trod_lt m _ _ _ hm
  have k7 := h7
  have lt7 : ∀ x ∈ p7, x.block < W.heap.size := by obtain ⟨m, hm⟩ := k7; exact DataW.trod_lt m _ _ _ hm
  obtain ⟨sel, rfl, rfl, rfl, ws⟩ := open_int Ybaf.underlying5 (hval 4 5 v4 rfl rfl) h4
  obtain ⟨pick, rfl, rfl, rfl, wp⟩ := open_int Ybaf.underlying23 (hval 5 23 v5 rfl rfl) h5
  obtain ⟨s1, w1, m1⟩ : ∃ ss, IsStrs W a1 len1 ss ∧ (a1 = none → len1 = 0 ∧ cap1 = 0) := by
    obtain ⟨fuel, hf⟩ := h1
    rcases open_strings Ybaf.underlying22 Ybaf.underlying9 cells9 hf with ⟨hcs, _⟩ | ⟨x, l, c, ss, hcs, _, hl, hm, hz, _, hcell, hws⟩
    · simp [Value.cells] at hcs
      obtain ⟨rfl, rfl, rfl⟩ := hcs
      obtain ⟨ts, h⟩ := strs_of (W := W) (cap := 0) (ss := []) (.inl ⟨rfl, rfl⟩)
      exact ⟨ts, h, fun _ => ⟨rfl, rfl⟩⟩
    · simp [Value.cells] at hcs
      obtain ⟨rfl, rfl, rfl⟩ := hcs
      obtain ⟨ts, h⟩ := strs_of (W := W) (ss := ss) (.inr ⟨_, rfl, hl, by simpa using hz, hcell⟩)
      exact ⟨ts, h, fun h => by cases h⟩
  obtain ⟨s6, w6, m6⟩ : ∃ ss, IsStrs W a6 len6 ss ∧ (a6 = none → len6 = 0 ∧ cap6 = 0) := by
    obtain ⟨fuel, hf⟩ := h6
    rcases open_strings Ybaf.underlying22 Ybaf.underlying9 cells9 hf with ⟨hcs, _⟩ | ⟨x, l, c, ss, hcs, _, hl, hm, hz, _, hcell, hws⟩
    · simp [Value.cells] at hcs
      obtain ⟨rfl, rfl, rfl⟩ := hcs
      obtain ⟨ts, h⟩ := strs_of (W := W) (cap := 0) (ss := []) (.inl ⟨rfl, rfl⟩)
      exact ⟨ts, h, fun _ => ⟨rfl, rfl⟩⟩
    · simp [Value.cells] at hcs
      obtain ⟨rfl, rfl, rfl⟩ := hcs
      obtain ⟨ts, h⟩ := strs_of (W := W) (ss := ss) (.inr ⟨_, rfl, hl, by simpa using hz, hcell⟩)
      exact ⟨ts, h, fun h => by cases h⟩
  have hsel : 0 ≤ sel ∧ sel ≤ 255 := by
    have := ws
    simp [Lit.wf, IntKind.min, IntKind.max, IntKind.signed, IntKind.bits] at this
    omega
  have hpick : 0 ≤ pick := by
    have := wp
    simp [Lit.wf, IntKind.min, IntKind.max, IntKind.signed, IntKind.bits] at this
    omega
  clear hA0 hV0 hval0
  have hwalk : Calls Ybaf.prog 3 #[.string nm, .slice a1 len1 cap1, .int .i64 line, .int .i64 bef, .int .u8 sel, .int .u64 pick, .slice a6 len6 cap6, .bool fl] W fun e w' => e = .returned (.bool true) ∧ Below W.heap.size W w' := by
    by_cases hgr : 1024 < len1 ∨ 1024 < len6
    · exact top_great nm a1 len1 cap1 line bef sel pick a6 len6 cap6 fl W hgr
    · exact top_small nm a1 len1 cap1 s1 line bef sel pick a6 len6 cap6 s6 fl ga gs1 gc gT1 W (by omega) (by omega) w1 w6 hg0 hca hbk m1 hsel hpick
  refine hwalk.mono fun e W' ⟨he, bel⟩ => ?_
  subst he
  exact ⟨_, rfl, _, _, _, [], _, [.cell 0 0], hW', trodAll_mk1 (shut_bool Ybaf.underlying4 _), (trodAll_cons_mk (Below.trod laidOut (by kernel_rfl) (of_decide_eq_true (by kernel_rfl)) k0 bel lt0) (trodAll_cons_mk (Below.trod laidOut (by kernel_rfl) (of_decide_eq_true (by kernel_rfl)) k1 bel lt1) (trodAll_cons_mk (Below.trod laidOut (by kernel_rfl) (of_decide_eq_true (by kernel_rfl)) k2 bel lt2) (trodAll_cons_mk (Below.trod laidOut (by kernel_rfl) (of_decide_eq_true (by kernel_rfl)) k3 bel lt3) (trodAll_cons_mk (Below.trod laidOut (by kernel_rfl) (of_decide_eq_true (by kernel_rfl)) k4 bel lt4) (trodAll_cons_mk (Below.trod laidOut (by kernel_rfl) (of_decide_eq_true (by kernel_rfl)) k5 bel lt5) (trodAll_cons_mk (Below.trod laidOut (by kernel_rfl) (of_decide_eq_true (by kernel_rfl)) k6 bel lt6) (trodAll_cons_mk (Below.trod laidOut (by kernel_rfl) (of_decide_eq_true (by kernel_rfl)) k7 bel lt7) trodAll_mk0)))))))), vars_read1 enc gN gT Ybaf.underlying31 (var_below bel gN hv1) trivial _, bel.frame _, fun h => by cases h⟩

/-- ████ THE STATEMENT ████ -/
theorem proved : Rows.LawS4608BDispatchToldSaid :=
  Claim7.holds_of_told_tied_any_at .later 3 Ybaf.f3 "fmt.errorf" [] [] _ _ _ _ _ (by kernel_rfl) rfl rfl rfl laidOut (by kernel_rfl) rfl ⟨rfl, rfl, rfl, rfl, rfl, rfl, rfl⟩ rfl rfl (by kernel_rfl) (by kernel_rfl) Ybaf.func3 (by kernel_rfl)
    (of_decide_eq_true (by kernel_rfl)) (by unfold Func.isWrapper; first | (rw [if_pos (by decide +kernel)]; kernel_rfl) | (rw [if_neg (by decide +kernel)]; exact ⟨rfl, rfl⟩)) stops.symm rfl stopKnobs.symm (by kernel_rfl)
    (by kernel_rfl) (by kernel_rfl) (by kernel_rfl) (by kernel_rfl) (by kernel_rfl) (by kernel_rfl) (by kernel_rfl) (by kernel_rfl) (by kernel_rfl) rfl (by kernel_rfl) rfl rfl
    rfl rfl
    rfl (by kernel_rfl) (by kernel_rfl) (by kernel_rfl) (by decide) (by kernel_rfl) lawS4608BDispatch_row_tie
    (OpenClaim.moreEntering_of (by kernel_rfl) (by kernel_rfl) (by kernel_rfl) (by kernel_rfl) (by kernel_rfl) (by kernel_rfl) (by kernel_rfl) (by kernel_rfl) (by kernel_rfl) (by kernel_rfl))
    ⟨_, WideRow.started_initial, quiet _⟩
    (fun os started _ H enc _ => lifted os started H enc)

end Go.Proofs.YbulkcqkgFmt.lawS4608BDispatch
