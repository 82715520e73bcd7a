import Derived.Test.YbulkcqhoQueue
import Derived.Deep.CutBlock
import Derived.Conc.EventLaws
import Derived.Test.YbulkcqhoDoor
namespace Go.Proofs.Ybulkcqho
open Go.RowKit Go.MuLone

set_option maxRecDepth 100000 in
set_option maxHeartbeats 1600000 in
theorem run_any (N n : Nat) (zs : List Int) (w0 w : World) (hn : n ≤ 1024) (hz : n ≤ zs.length) (hI : Inv N n 0 zs 0 w0 w) :
    Calls Yba.prog 6 #[.pointer (some ⟨N + 6, 0, none⟩)] w fun e w' => e = .returned (.tuple #[]) ∧ ∃ W, Inv N n n zs 0 w0 W ∧ w' = { W with heap := W.heap.setIfInBounds (N + 5) (.chan 0 #[] true 0 0 false) } := by
  obtain ⟨a, hQ, hA⟩ := hI.que
  have c13 : w.cell? ⟨N + 6, 13, none⟩ = some (.chan (some (N + 5))) := (hQ.cell 13).trans rfl
  have c1 : w.cell? ⟨N + 6, 1, none⟩ = some (.int .i32 0) := (hQ.cell 1).trans rfl
  have f1 := hQ.free 1
  have hI1 : Inv N n 0 zs 1 w0 (w.setCell ⟨N + 6, 1, none⟩ (.int .i32 1)) := by
    obtain ⟨V, hV⟩ := hI.rows
    exact ⟨⟨V, hV.setElse _ _ (by omega) (by omega) _⟩, ⟨a, hQ.lock 1, hA⟩, hI.below.setCell (by show N ≤ N + 6; omega) _⟩
  refine calls_of_wp_fin Yba.func6 rfl ?_
  simp only [Yba.ntmps6, List.size_toArray, List.length_cons, List.length_nil, Nat.reduceAdd, Nat.reduceSub, Array.replicate_succ, Array.replicate_zero, List.push_toArray, List.append_toArray, List.nil_append, List.cons_append]
  go_wp2_with (go_at_call 7; refine (lock_free Yba.muLib ⟨N + 6, 1, none⟩ _ c1 f1).mono ?_; rintro e w' ⟨rfl, rfl⟩)
  go_loopg [2] n (fun g _ wr => g ≤ n ∧ Inv N n (n - g) zs 1 w0 wr)
  case atStart => exact ⟨Nat.le_refl _, by rw [Nat.sub_self]; exact hI1⟩
  case round =>
    obtain ⟨hg, hI⟩ := hrel
    obtain ⟨k, hk⟩ : ∃ k, k = n - gk := ⟨_, rfl⟩
    rw [← hk] at hI
    obtain ⟨a, hQ, hA⟩ := hI.que
    have HK : Hid (k = n - gk) := hk
    have hkn : k ≤ n := by omega
    clear hk c13 c1 f1 hI1
    by_cases hlt : k < n
    · obtain rfl := hA hlt
      obtain ⟨m, hm⟩ : ∃ m, n - k = m + 1 := ⟨n - k - 1, by omega⟩
      have HM : Hid (n - k = m + 1) := hm
      rw [hm] at hQ
      have hmn : m + 1 + k = n := by omega
      clear hm hA
      have q0 : wr.cell? ⟨N + 6, 0, none⟩ = some (.func (.func 4) #[] #[.pointer (some ⟨N + 1, 0, none⟩), .pointer (some ⟨N + 2, 0, none⟩), .pointer (some ⟨N + 7, 0, none⟩), .pointer (some ⟨N + 3, 0, none⟩), .pointer (some ⟨N + 4, 0, none⟩)]) := (hQ.cell 0).trans rfl
      have q1 : wr.cell? ⟨N + 6, 1, none⟩ = some (.int .i32 1) := (hQ.cell 1).trans rfl
      have q10 : wr.cell? ⟨N + 6, 10, none⟩ = some (.slice (some ⟨N, k, none⟩) (m + 1) (m + 1)) := (hQ.cell 10).trans rfl
      have q11 : wr.cell? ⟨N + 6, 11, none⟩ = some (.bool false) := (hQ.cell 11).trans rfl
      have q12 : wr.cell? ⟨N + 6, 12, none⟩ = some (.bool true) := (hQ.cell 12).trans rfl
      have f1 := hQ.free 1
      have f10 := hQ.free 10
      have f11 := hQ.free 11
      have b0 : wr.cell? ⟨N, k, none⟩ = some (.int .i64 (zs.getD k 0)) := by have := hQ.bufCell k hlt; rw [if_neg (by omega)] at this; exact this
      have fb := hQ.bufFree k
      have t0 : (((m : Int) + 1) == 0) = false := beq_eq_false_iff_ne.2 (by omega)
      obtain ⟨ad, had, hsl⟩ : ∃ ad, (0 < m → ad = some (⟨N, k + 1, none⟩ : Addr)) ∧ ∀ w, (Instr.slice 22 (.slice (some ⟨N, k, none⟩) (m + 1) (m + 1)) (some (.int .i64 1)) none none).run Yba.prog w = .ok (.slice ad m m) w := by
        refine ⟨if m + 1 = 1 then some ⟨N, k, none⟩ else some ⟨N, k + 1, none⟩, fun h => by rw [if_neg (by omega)], fun w => ?_⟩
        go_simp
        intro h
        omega
      obtain ⟨V, hV⟩ := hI.rows
      have hQ0 := (((hQ.clear hlt).wait (.slice ad m m)).handle true)
      have hQ1 := hQ0.lock 0
      have hV1 := ((((hV.setElse N k (by omega) (by omega) (.int .i64 0)).setElse (N + 6) 10 (by omega) (by omega) (.slice ad m m)).setElse (N + 6) 11 (by omega) (by omega) (.bool true)).setElse (N + 6) 1 (by omega) (by omega) (.int .i32 0))
      have hB1 := (((hI.below.setCell (p := ⟨N, k, none⟩) (Nat.le_refl _) (.int .i64 0)).setCell (p := ⟨N + 6, 10, none⟩) (by show N ≤ N + 6; omega) (.slice ad m m)).setCell (p := ⟨N + 6, 11, none⟩) (by show N ≤ N + 6; omega) (.bool true)).setCell (p := ⟨N + 6, 1, none⟩) (by show N ≤ N + 6; omega) (.int .i32 0)
      have hlen4 : ∀ i, i < 4 → (X4 n zs k i).length ≤ 4096 := fun i hi => by rw [X4_len n zs k (by omega) i hi]; omega
      have hm4 : m ≤ 4096 := by omega
      clear hmn
      go_wp2_with fail
      refine wp_loop_once ?_
      go_wp2_with fail
      refine (unlock_held Yba.muLib ⟨N + 6, 1, none⟩ _ ?_ ?_).mono ?_
      · exact (hQ0.cell 1).trans rfl
      · exact hQ0.free 1
      rintro e w' ⟨rfl, rfl⟩
      go_wp2_with fail
      refine (clo_any N m m ad (zs[k]?.getD 0) (X4 n zs k) _ ⟨V, hV1⟩ hm4 hlen4 hQ1.seen).mono ?_
      rintro e w2 ⟨rfl, hL⟩
      have hQ2 := hQ1.later hL
      have y1 : w2.cell? ⟨N + 6, 1, none⟩ = some (.int .i32 0) := (hQ2.cell 1).trans rfl
      have y1f := hQ2.free 1
      have y11 : w2.cell? ⟨N + 6, 11, none⟩ = some (.bool true) := (hQ2.cell 11).trans rfl
      have y11f := hQ2.free 11
      go_wp2_with fail
      refine (lock_free Yba.muLib ⟨N + 6, 1, none⟩ _ y1 y1f).mono ?_
      rintro e w' ⟨rfl, rfl⟩
      go_wp2
      have hm' : m = n - k - 1 := by have := HM.out; omega
      have hk' : k = n - gk := HK.out
      go_roundg (gk - 1)
      case measure => omega
      case rel =>
        refine ⟨by omega, ?_⟩
        have e1 : n - (gk - 1) = k + 1 := by omega
        rw [e1]
        have hX := X4_succ n zs k (by omega) hlt
        rw [← hm', List.getD_eq_getElem?_getD] at hX
        rw [hX] at hL
        obtain ⟨V2, hV2⟩ := hL.rows
        refine ⟨⟨V2, (hV2.setElse _ _ (by omega) (by omega) _).setElse _ _ (by omega) (by omega) _⟩, ⟨ad, ?_, fun h => had (by omega)⟩, ?_⟩
        · have e2 : n - (k + 1) = m := by omega
          rw [e2]
          exact (hQ2.lock 1).handle false
        · exact ((hB1.trans (hL.below.mono (by omega))).setCell (p := ⟨N + 6, 1, none⟩) (by show N ≤ N + 6; omega) _).setCell (p := ⟨N + 6, 11, none⟩) (by show N ≤ N + 6; omega) _
    · have hkn' : k = n := by omega
      subst hkn'
      rw [Nat.sub_self] at hQ
      have q10 : wr.cell? ⟨N + 6, 10, none⟩ = some (.slice a 0 0) := (hQ.cell 10).trans rfl
      have q12 : wr.cell? ⟨N + 6, 12, none⟩ = some (.bool true) := (hQ.cell 12).trans rfl
      have q1 : wr.cell? ⟨N + 6, 1, none⟩ = some (.int .i32 1) := (hQ.cell 1).trans rfl
      have f1 := hQ.free 1
      go_wp2_with fail
      refine wp_loop_once ?_
      go_wp2_with fail
      show FinD _ _ _ _ _ _
      refine fin_call (g := 8) (args := #[.pointer (some ⟨N + 6, 1, none⟩)]) (by simp [go_sem]) ?_
      refine (unlock_deferred Yba.muLib ⟨N + 6, 1, none⟩ .returning _ q1 f1).mono ?_
      rintro e u' w' ⟨rfl, rfl, rfl⟩
      refine ⟨rfl, _, rfl, ?_⟩
      have hq2 := hQ.lock 0
      have hcl : (invoke (.builtin .close #[25] 0 #[false]) #[.chan (some (N + 5))]).run Yba.prog (wr.setCell ⟨N + 6, 1, none⟩ (.int .i32 0)) = .ok (.value (.tuple #[])) { (wr.setCell ⟨N + 6, 1, none⟩ (.int .i32 0)) with heap := (wr.setCell ⟨N + 6, 1, none⟩ (.int .i32 0)).heap.setIfInBounds (N + 5) (.chan 0 #[] true 0 0 false) } := by
        generalize wr.setCell ⟨N + 6, 1, none⟩ (.int .i32 0) = w5 at hq2
        have hch := hq2.chn
        have hr := Go.run_close_open (P := Yba.prog) #[25] 0 hch
        show (Sem.run Yba.prog (do pure (Next.value (← Builtin.close_ #[25] 0 #[.chan (some (N + 5))]))) w5) = _
        simp only [Sem.run_bind, hr, Result.andThen_ok, Sem.run_pure]
      refine fin_builtin hcl (fin_nil Yba.func6 (results_none rfl _ _ _) ⟨rfl, _, ?_, rfl⟩)
      obtain ⟨V, hV⟩ := hI.rows
      exact ⟨⟨V, hV.setElse _ _ (by omega) (by omega) _⟩, ⟨a, by rw [Nat.sub_self]; exact hq2, fun h => absurd h (by omega)⟩, hI.below.setCell (p := ⟨N + 6, 1, none⟩) (by show N ≤ N + 6; omega) _⟩

end Go.Proofs.Ybulkcqho
