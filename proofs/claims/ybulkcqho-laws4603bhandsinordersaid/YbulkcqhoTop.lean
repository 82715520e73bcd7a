import Derived.Test.YbulkcqhoStart
import Derived.Test.YbulkcqhoRecv
import Derived.Laws.EntriesVeiled
import Derived.BigRegion
import Derived.OpenShut
import Derived.BigQuiet
import Derived.Deep.QuietTactic
namespace Go.Proofs.Ybulkcqho
open Go.RowKit

def sAddr : Value → Option Addr | .slice a _ _ => a | _ => none
def sCap : Value → Nat | .slice _ _ c => c | _ => 0

/-- What the law reads behind the run, all items handled: the four slices, the buffer, the queue, the channel closed. -/
structure EndI (N n : Nat) (zs : List Int) (A : Nat → Option Addr) (C : Nat → Nat) (w0 w : World) : Prop where
  var : ∀ i, i < 4 → w.cell? ⟨N + 1 + i, 0, none⟩ = some (.slice (A i) n (C i))
  row : ∀ i, i < 4 → 0 < n → ∃ g, A i = some ⟨g, 0, none⟩ ∧ ∀ j, j < n → w.cell? ⟨g, j, none⟩ = (X4 n zs n i)[j]?
  buf : ∀ j, j < n → w.cell? ⟨N, j, none⟩ = some (.int .i64 0)
  que : ∃ a, w.heap[N + 6]? = some (.cells (qb N 0 (.slice a 0 0) false) 43 (0, 0))
  qvar : w.cell? ⟨N + 7, 0, none⟩ = some (.pointer (some ⟨N + 6, 0, none⟩))
  chn : w.heap[N + 5]? = some (.chan 0 #[] true 0 0 false)
  below : Below N w0 w

theorem EndI.drew {N n : Nat} {zs : List Int} {A : Nat → Option Addr} {C : Nat → Nat} {w0 w : World} (h : EndI N n zs A C w0 w) : EndI N n zs A C w0 w.drew :=
  ⟨h.var, h.row, h.buf, h.que, h.qvar, h.chn, h.below.drew⟩

theorem EndI.drewN {N n : Nat} {zs : List Int} {A : Nat → Option Addr} {C : Nat → Nat} {w0 w : World} (h : EndI N n zs A C w0 w) (d : Nat) : EndI N n zs A C w0 (w.drewN d) :=
  ⟨h.var, h.row, h.buf, h.que, h.qvar, h.chn, ⟨h.below.os, h.below.tape, h.below.output, h.below.size, h.below.block⟩⟩

theorem end_of {N n : Nat} {zs : List Int} {w0 W : World} (hz : n ≤ zs.length) (h : Inv N n n zs 0 w0 W) :
    ∃ A C, EndI N n zs A C w0 { W with heap := W.heap.setIfInBounds (N + 5) (.chan 0 #[] true 0 0 false) } := by
  obtain ⟨V, hV⟩ := h.rows
  obtain ⟨a, hQ, _⟩ := h.que
  have hoth : ∀ k, k ≠ N + 5 → ({ W with heap := W.heap.setIfInBounds (N + 5) (.chan 0 #[] true 0 0 false) } : World).heap[k]? = W.heap[k]? := fun k hk => by
    simp only; rw [Array.getElem?_setIfInBounds_ne (by omega)]
  have hlt : N + 5 < W.heap.size := lt_of_block hQ.chn
  have hform : ∀ i, i < 4 → ∃ A C, V i = .slice A n C ∧ (0 < n → ∃ g, A = some ⟨g, 0, none⟩ ∧ N + 8 ≤ g) := fun i hi => by
    have ho := hV.own i hi
    rw [X4_len n zs n hz i hi] at ho
    rcases ho.2 with ⟨h1, h2⟩ | ⟨g, cap, cur, h1, hb, _⟩
    · subst h2; exact ⟨none, 0, h1, fun h => absurd h (by omega)⟩
    · exact ⟨_, _, h1, fun _ => ⟨g, rfl, hb⟩⟩
  obtain ⟨A, hA⟩ : ∃ A : Nat → Option Addr, ∀ i, i < 4 → ∃ C, V i = .slice (A i) n C ∧ (0 < n → ∃ g, A i = some ⟨g, 0, none⟩ ∧ N + 8 ≤ g) :=
    ⟨fun i => sAddr (V i), fun i hi => by obtain ⟨A, C, hv, hr⟩ := hform i hi; exact ⟨C, by simp [hv, sAddr], by simpa [hv, sAddr] using hr⟩⟩
  obtain ⟨C, hC⟩ : ∃ C : Nat → Nat, ∀ i, i < 4 → V i = .slice (A i) n (C i) :=
    ⟨fun i => sCap (V i), fun i hi => by obtain ⟨C, hv, _⟩ := hA i hi; simp [hv, sCap]⟩
  refine ⟨A, C, ?_, ?_, ?_, ?_, ?_, ?_, ?_⟩
  · intro i hi
    rw [← hC i hi, ← hV.cell i hi]
    exact World.cell?_of_block (hoth _ (by show N + 1 + i ≠ N + 5; omega))
  · intro i hi h0
    obtain ⟨_, _, hr⟩ := hA i hi
    obtain ⟨g, hg, hb⟩ := hr h0
    refine ⟨g, hg, fun j hj => ?_⟩
    have ho := hV.own i hi
    rw [X4_len n zs n hz i hi, hC i hi, hg] at ho
    rw [← ho.cellAt j (by omega)]
    exact World.cell?_of_block (hoth _ (by show g ≠ N + 5; omega))
  · intro j hj
    have := hQ.bufCell j hj
    rw [if_pos hj] at this
    rw [← this]
    exact World.cell?_of_block (hoth _ (by show N ≠ N + 5; omega))
  · rw [Nat.sub_self] at hQ
    exact ⟨a, (hoth _ (by omega)).trans hQ.que⟩
  · exact (World.cell?_of_block (hoth _ (by show N + 7 ≠ N + 5; omega))).trans (cell_of_one hQ.var)
  · simp [hlt]
  · exact ⟨h.below.os, h.below.tape, h.below.output, by simpa using h.below.size, fun k hk => (hoth k (by omega)).trans (h.below.block k hk)⟩

set_option maxRecDepth 100000 in
set_option maxHeartbeats 1600000 in
theorem law_small (a0 : Option Addr) (n cap : Nat) (zs : List Int) (w : World) (hn : n ≤ 1024) (hz : n ≤ zs.length) (ha : 0 < n → ∃ x, a0 = some x ∧ ∀ i, i < zs.length → w.cell? (x.add i) = some (.int .i64 (zs.getD i 0))) :
    Calls Yba.prog 3 #[.slice a0 n cap] w fun e w' => e = .returned (.bool true) ∧ Below w.heap.size w w' := by
  obtain ⟨cs, hcs, hcv, hcp⟩ := copy_run w n zs a0 cap hz ha
  have hI := start_inv w cs n zs hcs hcv
  have hmk := run_make_row' (P := Yba.prog) 22 3 (.int .i64 0) 8 Yba.underlying22 Yba.info3 rfl .i64 .i64 n (by omega) (by omega)
  have hmf : ∀ (fn : Fn) (first cap : Array Value) (w : World), (Instr.makeFunc fn first cap).run Yba.prog w = .ok (.func fn first cap) w := fun _ _ _ _ => rfl
  have hmc : ∀ w, (Instr.makeChan 25 (.int .i64 0)).run Yba.prog w = .ok (.chan (some w.heap.size)) (w.alloc (.chan 0 #[] false 0 0 false)) := fun _ => by rfl
  have h1024 : decide ((1024 : Int) < (n : Int)) = false := by simp; omega
  clear hcv hcs
  go_enter Yba.func3, Yba.ntmps3
  go_wp2_with fail
  go_big_region
  go_upto_region 13 with fail
  go_cut [40] from 14 to 41 (fun _ wx => ∃ A C, EndI w.heap.size n zs A C w wx)
  case first =>
    go_wp2_with fail
    show Calls Yba.prog 6 #[.pointer (some ⟨w.heap.size + 6, 0, none⟩)] (startW w cs n) _
    refine (run_any w.heap.size n zs w (startW w cs n) hn hz hI).mono ?_
    rintro e w' ⟨rfl, W, hW, rfl⟩
    go_wp2
    go_meet
    case rel => exact end_of hz hW
  case rest =>
  obtain ⟨A, C, hE⟩ := hcut
  clear hI hmk hmf hmc h1024 hcp
  have v0 : wc.cell? ⟨w.heap.size + 1, 0, none⟩ = some (.slice (A 0) n (C 0)) := hE.var 0 (by omega)
  have v1 : wc.cell? ⟨w.heap.size + 1 + 1, 0, none⟩ = some (.slice (A 1) n (C 1)) := hE.var 1 (by omega)
  have v2 : wc.cell? ⟨w.heap.size + 1 + 1 + 1, 0, none⟩ = some (.slice (A 2) n (C 2)) := hE.var 2 (by omega)
  have v3 : wc.cell? ⟨w.heap.size + 1 + 1 + 1 + 1, 0, none⟩ = some (.slice (A 3) n (C 3)) := hE.var 3 (by omega)
  have hnn : ((n : Int) != (n : Int)) = false := by simp
  go_upto_block 0 with fail
  go_cut [10] from 42 to 99 (fun _ wx => EndI w.heap.size n zs A C w wx)
  case first =>
    go_wp2_with fail
    go_loopg [10] n (fun g i wr => ∃ k : Nat, k + g = n ∧ i = .int .i64 k ∧ EndI w.heap.size n zs A C w wr)
    case atStart => exact ⟨0, by omega, rfl, hE⟩
    case round =>
      obtain ⟨k, hk, rfl, hE⟩ := hrel
      have HK : Hid (k + gk = n) := hk
      have hkn : k ≤ n := by omega
      clear hk v0 v1 v2 v3
      have v0 : wr.cell? ⟨w.heap.size + 1, 0, none⟩ = some (.slice (A 0) n (C 0)) := hE.var 0 (by omega)
      have v1 : wr.cell? ⟨w.heap.size + 1 + 1, 0, none⟩ = some (.slice (A 1) n (C 1)) := hE.var 1 (by omega)
      have v2 : wr.cell? ⟨w.heap.size + 1 + 1 + 1, 0, none⟩ = some (.slice (A 2) n (C 2)) := hE.var 2 (by omega)
      have v3 : wr.cell? ⟨w.heap.size + 1 + 1 + 1 + 1, 0, none⟩ = some (.slice (A 3) n (C 3)) := hE.var 3 (by omega)
      by_cases hlt : k < n
      · obtain ⟨x, rfl, hx⟩ := ha (by omega)
        obtain ⟨b, off, rfl, hc⟩ := ints_at hx (by omega)
        obtain ⟨g0, e0, r0⟩ := hE.row 0 (by omega) (by omega)
        obtain ⟨g1, e1, r1⟩ := hE.row 1 (by omega) (by omega)
        obtain ⟨g2, e2, r2⟩ := hE.row 2 (by omega) (by omega)
        obtain ⟨g3, e3, r3⟩ := hE.row 3 (by omega) (by omega)
        rw [e0] at v0; rw [e1] at v1; rw [e2] at v2; rw [e3] at v3
        have x0 : wr.cell? ⟨g0, k, none⟩ = some (.int .i64 (zs.getD k 0)) := by rw [r0 k hlt]; simp [X4, hlt]; rw [List.getElem?_eq_getElem (by omega)]; rfl
        have x1 : wr.cell? ⟨g1, k, none⟩ = some (.int .i64 ((n : Int) - k)) := by rw [r1 k hlt]; simp [X4, hlt]
        have x2 : wr.cell? ⟨g2, k, none⟩ = some (.bool true) := by rw [r2 k hlt]; simp [X4, hlt]
        have x3 : wr.cell? ⟨g3, k, none⟩ = some (.int .i64 ((n : Int) - k - 1)) := by rw [r3 k hlt]; simp [X4, hlt]
        have xb : wr.cell? ⟨b, off + k, none⟩ = some (.int .i64 (zs.getD k 0)) := (hE.below.cell (World.block_lt_of_cell? w _ (hc k (by omega)))).trans (hc k (by omega))
        clear r0 r1 r2 r3 e0 e1 e2 e3 hx hc ha
        have t0 : (zs.getD k 0 != zs.getD k 0) = false := by simp
        have i0 : (0 : Int) ≤ (k : Int) := by omega
        have i1 : (k : Int) < (n : Int) := by omega
        go_wp2_with fail
        go_quiet (fail)
        go_wp2
        go_roundg (gk - 1)
        case measure => have := HK.out; omega
        case rel => exact ⟨k + 1, by have := HK.out; omega, by go_num, hE.drewN _⟩
      · go_wp2
        go_meet
        case rel => exact hE
  case rest =>
  clear hE v0 v1 v2 v3 ha
  have hE := hcut
  go_upto_block 2 with fail
  go_cut [11] from 100 to 109 (fun _ wx => wx = wc)
  case first =>
    go_wp2_with fail
    go_loopg [11] n (fun g i wr => ∃ k : Nat, k + g = n ∧ i = .int .i64 k ∧ wr = wc)
    case atStart => exact ⟨0, by omega, rfl, rfl⟩
    case round =>
      obtain ⟨k, hk, rfl, rfl⟩ := hrel
      have HK : Hid (k + gk = n) := hk
      have hkn : k ≤ n := by omega
      clear hk
      by_cases hlt : k < n
      · have b0 := hcut.buf k hlt
        go_wp2
        go_roundg (gk - 1)
        case measure => have := HK.out; omega
        case rel => exact ⟨k + 1, by have := HK.out; omega, by go_num, rfl⟩
      · go_wp2
        go_meet
        case rel => rfl
  case rest =>
  subst hcut
  obtain ⟨a, hq⟩ := hE.que
  have qv : wc.cell? ⟨w.heap.size + 1 + 1 + 1 + 1 + 1 + 1 + 1, 0, none⟩ = some (.pointer (some ⟨w.heap.size + 6, 0, none⟩)) := hE.qvar
  have q1 : wc.cell? ⟨w.heap.size + 6, 1, none⟩ = some (.int .i32 0) := by simp [World.cell?, hq, qb]
  have f1 : wc.frozen? ⟨w.heap.size + 6, 1, none⟩ = false := by simp [World.frozen?, hq]
  have q10 : wc.cell? ⟨w.heap.size + 6, 10, none⟩ = some (.slice a 0 0) := by simp [World.cell?, hq, qb]
  have q11 : wc.cell? ⟨w.heap.size + 6, 11, none⟩ = some (.bool false) := by simp [World.cell?, hq, qb]
  have q12 : wc.cell? ⟨w.heap.size + 6, 12, none⟩ = some (.bool true) := by simp [World.cell?, hq, qb]
  have q13 : wc.cell? ⟨w.heap.size + 6, 13, none⟩ = some (.chan (some (w.heap.size + 5))) := by simp [World.cell?, hq, qb]
  have hlen := len_any (w.heap.size + 6) 0 0 a false wc (by omega) q1 f1 q10 q11
  have hlen0 : Calls Yba.prog 5 #[.pointer (some ⟨w.heap.size + 6, 0, none⟩)] wc fun e w' => e = .returned (.int .i64 0) ∧ w' = wc := by simpa [one] using hlen
  clear hlen hq
  go_upto_region 36 with (go_at_call 5; refine hlen0.mono ?_; rintro e w' ⟨rfl, rfl⟩)
  refine wp_region_opsS ?_
  show OpsS _ _ _ [0, 1, 2, 3, 4, 5, 6, 7, 8, 9, 10] _ _
  refine opsS_value (v := .pointer (some ⟨w.heap.size + 6, 0, none⟩)) rfl rfl (w' := w') (by go_simp) ?_
  refine opsS_value (v := .pointer (some ⟨w.heap.size + 6, 0, none⟩)) rfl rfl (w' := w') (by go_simp) ?_
  refine opsS_value (v := .pointer (some ⟨w.heap.size + 6, 13, none⟩)) rfl rfl (w' := w') (by go_simp) ?_
  refine opsS_value (v := .chan (some (w.heap.size + 5))) rfl rfl (w' := w') (by go_simp) ?_
  refine opsS_recv_shut (c := w.heap.size + 5) (z := .agg #[]) (ok := true) rfl rfl (by go_simp; try rfl) hE.chn ?_
  refine opsS_tail (l1 := [_, _, _, _, _]) (l2 := [_, _, _, _, _, _]) rfl ?_
  simp only [Conc.got, ↓reduceIte]
  go_wp2
  go_ret
  exact ⟨rfl, hE.below.alloc hE.below.size _⟩

set_option maxHeartbeats 400000 in
/-- More than 1,024 items: true at once. -/
theorem law_great (a0 : Option Addr) (n cap : Nat) (w : World) (hn : 1024 < n) (hm : n ≤ maxLen) :
    Calls Yba.prog 3 #[.slice a0 n cap] w fun e w' => e = .returned (.bool true) ∧ Below w.heap.size w w' := by
  unfold maxLen at hm
  have h1024 : decide ((1024 : Int) < (n : Int)) = true := by simp; omega
  go_enter Yba.func3, Yba.ntmps3
  go_wp2
  go_ret
  exact ⟨rfl, Below.refl _ _⟩

end Go.Proofs.Ybulkcqho
