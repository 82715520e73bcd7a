/-
  The walk of the law.
-/
import Derived.Test.YbulkcqkgFmtRead2
namespace Go.Proofs.YbulkcqkgFmt
open Go.RowKit

theorem Ybaf.info9 : (Ybaf.prog.info? 9).map (fun i => (i.zero, i.size, i.bytes)) = some (some (.string ByteArray.empty), 1, 16) := by kernel_rfl

theorem top_great (nm : ByteArray) (a1 : Option Addr) (n1 c1 : Nat) (line before sel pick : Int) (a2 : Option Addr) (n2 c2 : Nat) (fl : Bool) (w : World) (hg : 1024 < n1 ∨ 1024 < n2) :
    Calls Ybaf.prog 3 #[.string nm, .slice a1 n1 c1, .int .i64 line, .int .i64 before, .int .u8 sel, .int .u64 pick, .slice a2 n2 c2, .bool fl] w fun e w' => e = .returned (.bool true) ∧ Below w.heap.size w w' := by
  by_cases h1 : 1024 < n1
  · have t1 : decide ((n1 : Int) > 1024) = true := by simp; omega
    go_enter Ybaf.func3, Ybaf.ntmps3
    go_wp2
    go_ret
    exact ⟨rfl, ((Below.refl _ _).alloc (Nat.le_refl _) _).alloc (by simp) _⟩
  · have t1 : decide ((n1 : Int) > 1024) = false := by simp; omega
    have t2 : decide ((n2 : Int) > 1024) = true := by simp; omega
    go_enter Ybaf.func3, Ybaf.ntmps3
    go_wp2
    go_ret
    exact ⟨rfl, ((Below.refl _ _).alloc (Nat.le_refl _) _).alloc (by simp) _⟩

theorem slice_of_own {w : World} {B : Nat} {v : Value} {n : Nat} {xs : List Value} (h : w.ownsRow B 9 1 v n xs) : ∃ a c, v = .slice a n c := by
  rcases h.2 with ⟨rfl, rfl⟩ | ⟨g, cap, cur, rfl, _⟩
  · exact ⟨none, 0, rfl⟩
  · exact ⟨_, _, rfl⟩

/-- Behind 't := &table{..}': the two boxes, the table, the copy of the header. -/
structure Laid (w : World) (a2 : Option Addr) (n2 c2 : Nat) (fl : Bool) (nm : ByteArray) (n1 : Nat) (hs : List ByteArray) (before : Int) (tb : Nat) (hv : Value) (mb : Nat) (wx : World) : Prop where
  low : Below w.heap.size w wx
  ge : w.heap.size + 2 ≤ tb
  bF : wx.heap[w.heap.size]? = some (.cells #[.slice a2 n2 c2] 22 (0, 0))
  bL : wx.heap[w.heap.size + 1]? = some (.cells #[.bool fl] 4 (0, 0))
  tbl : wx.heap[tb]? = some (.cells (tab nm hv mb before) 29 (0, 0))
  hd : 0 < n1 → ∃ g hc, hv = .slice (some ⟨g, 0, none⟩) n1 hc ∧ ∀ j, j < n1 → wx.cell? ⟨g, 0 + j, none⟩ = some (.string (hs.getD j ByteArray.empty))

theorem Laid.alloc {w : World} {a2 : Option Addr} {n2 c2 : Nat} {fl : Bool} {nm : ByteArray} {n1 : Nat} {hs : List ByteArray} {before : Int} {tb : Nat} {hv : Value} {mb : Nat} {wx : World} (h : Laid w a2 n2 c2 fl nm n1 hs before tb hv mb wx) (o : Obj) :
    Laid w a2 n2 c2 fl nm n1 hs before tb hv mb (wx.alloc o) :=
  ⟨h.low.alloc h.low.size o, h.ge, heap_alloc_at h.bF, heap_alloc_at h.bL, heap_alloc_at h.tbl, fun h0 => by
    obtain ⟨g, hc, e, hj⟩ := h.hd h0
    exact ⟨g, hc, e, fun j hjn => cell_alloc_at o (hj j hjn)⟩⟩

theorem laid_of {w X : World} {a2 : Option Addr} {n2 c2 : Nat} {fl : Bool} {nm : ByteArray} {n1 : Nat} {hs : List ByteArray} {before : Int} {hv : Value} (hB : Below w.heap.size w X) (hS : w.heap.size + 2 ≤ X.heap.size)
    (bF : X.heap[w.heap.size]? = some (.cells #[.slice a2 n2 c2] 22 (0, 0))) (bL : X.heap[w.heap.size + 1]? = some (.cells #[.bool fl] 4 (0, 0)))
    (hd : 0 < n1 → ∃ g hc, hv = .slice (some ⟨g, 0, none⟩) n1 hc ∧ ∀ j, j < n1 → X.cell? ⟨g, 0 + j, none⟩ = some (.string (hs.getD j ByteArray.empty))) :
    Laid w a2 n2 c2 fl nm n1 hs before (X.heap.size + 1) hv X.heap.size ((X.alloc (.map #[] 0)).alloc (.cells (tab nm hv X.heap.size before) 29)) := by
  refine ⟨(hB.alloc (by omega) _).alloc (by simp; omega) _, by omega, heap_alloc_at (heap_alloc_at bF), heap_alloc_at (heap_alloc_at bL), ?_, fun h0 => ?_⟩
  · have := heap_alloc_own (X.alloc (.map #[] 0)) (.cells (tab nm hv X.heap.size before) 29)
    rwa [World.size_alloc] at this
  · obtain ⟨g, hc, e, hj⟩ := hd h0
    exact ⟨g, hc, e, fun j hjn => cell_alloc_at _ (cell_alloc_at _ (hj j hjn))⟩

theorem run_neq_iface_types {P : Program} {ti : TypeId} {ms : Array (String × TypeId)} (tx ty : TypeId) (vx vy : Value) (hi : P.underlying ti = some (.interface ms)) (hne : tx ≠ ty) (w : World) :
    (binOp .neq ti (.iface tx vx) (.iface ty vy)).run P w = .ok (.bool true) w := by
  have h : ∀ d : Nat, (Op.equalIn (d + 1) ti (.iface tx vx) (.iface ty vy)).run P w = .ok false w := fun d => by simp [Op.equalIn, run_underlying hi, hne]
  simp only [binOp]
  simp [Op.equal, Op.maxDepth, h 9999]

/-- What is known at the call of readFields. -/
structure Ready (w : World) (a2 : Option Addr) (n2 c2 : Nat) (fl : Bool) (nm : ByteArray) (n1 : Nat) (hs : List ByteArray) (before : Int) (tb : Nat) (hv : Value) (mb N : Nat) (wx : World) : Prop where
  laid : Laid w a2 n2 c2 fl nm n1 hs before tb hv mb wx
  tlt : tb < N
  wlt : w.heap.size ≤ N
  b0 : ∃ t, wx.heap[N]? = some (.cells #[.string t] 41 (0, 0))
  b1 : wx.heap[N + 1]? = some (.cells #[.iface 39 (.pointer (some ⟨N, 0, none⟩))] 31 (0, 0))
  b2 : wx.heap[N + 1 + 1]? = some (.cells #[.int .i64 0] 3 (0, 0))
  b3 : wx.heap[N + 1 + 1 + 1]? = some (.cells #[.bool true] 4 (0, 0))

theorem ready_of {w : World} {a2 : Option Addr} {n2 c2 : Nat} {fl : Bool} {nm : ByteArray} {n1 : Nat} {hs : List ByteArray} {before : Int} {tb : Nat} {hv : Value} {mb : Nat} {wc : World} (t : ByteArray) (h : Laid w a2 n2 c2 fl nm n1 hs before tb hv mb wc) :
    Ready w a2 n2 c2 fl nm n1 hs before tb hv mb wc.heap.size ((((wc.alloc (.cells #[.string t] 41)).alloc (.cells #[.iface 39 (.pointer (some ⟨wc.heap.size, 0, none⟩))] 31)).alloc (.cells #[.int .i64 0] 3)).alloc (.cells #[.bool true] 4)) := by
  refine ⟨(((h.alloc _).alloc _).alloc _).alloc _, lt_of_heap h.tbl, h.low.size, ⟨t, ?_⟩, ?_, ?_, ?_⟩
  · exact heap_alloc_at (heap_alloc_at (heap_alloc_at (heap_alloc_own wc _)))
  · have := heap_alloc_own (wc.alloc (.cells #[.string t] 41)) (.cells #[.iface 39 (.pointer (some ⟨wc.heap.size, 0, none⟩))] 31)
    rw [World.size_alloc] at this
    exact heap_alloc_at (heap_alloc_at this)
  · have := heap_alloc_own ((wc.alloc (.cells #[.string t] 41)).alloc (.cells #[.iface 39 (.pointer (some ⟨wc.heap.size, 0, none⟩))] 31)) (.cells #[.int .i64 0] 3)
    rw [World.size_alloc, World.size_alloc] at this
    exact heap_alloc_at this
  · have := heap_alloc_own (((wc.alloc (.cells #[.string t] 41)).alloc (.cells #[.iface 39 (.pointer (some ⟨wc.heap.size, 0, none⟩))] 31)).alloc (.cells #[.int .i64 0] 3)) (.cells #[.bool true] 4)
    rw [World.size_alloc, World.size_alloc, World.size_alloc] at this
    exact this

set_option maxHeartbeats 1000000 in
theorem top_small (nm : ByteArray) (a1 : Option Addr) (n1 c1 : Nat) (hs : List ByteArray) (line before sel pick : Int) (a2 : Option Addr) (n2 c2 : Nat) (fs : List ByteArray) (fl : Bool) (ga : Addr) (gt : ByteArray) (gc : Array Value) (gT : TypeId) (w : World)
    (h1 : n1 ≤ 1024) (h2 : n2 ≤ 1024) (i1 : IsStrs w a1 n1 hs) (i2 : IsStrs w a2 n2 fs) (hg : w.cell? ⟨0, 0, none⟩ = some (.iface 39 (.pointer (some ga)))) (hga : w.cell? ga = some (.string gt)) (hgb : w.heap[ga.block]? = some (.cells gc gT (0, 0)))
    (hnil : a1 = none → n1 = 0 ∧ c1 = 0) (hsel : 0 ≤ sel ∧ sel ≤ 255) (hpick : 0 ≤ pick) :
    Calls Ybaf.prog 3 #[.string nm, .slice a1 n1 c1, .int .i64 line, .int .i64 before, .int .u8 sel, .int .u64 pick, .slice a2 n2 c2, .bool fl] w fun e w' => e = .returned (.bool true) ∧ Below w.heap.size w w' := by
  have t1 : decide ((n1 : Int) > 1024) = false := by simp; omega
  have t2 : decide ((n2 : Int) > 1024) = false := by simp; omega
  go_enter Ybaf.func3, Ybaf.ntmps3
  go_upto_region 3 with fail
  obtain ⟨i0, hi, hz0, hz1, hz2⟩ := info_parts Ybaf.info9
  have hS : ((w.alloc (.cells #[.slice a2 n2 c2] 22)).alloc (.cells #[.bool fl] 4)).heap.size = w.heap.size + 2 := by simp
  have hB2 : Below w.heap.size w ((w.alloc (.cells #[.slice a2 n2 c2] 22)).alloc (.cells #[.bool fl] 4)) := ((Below.refl _ _).alloc (Nat.le_refl _) _).alloc (by simp) _
  have hF2 : ((w.alloc (.cells #[.slice a2 n2 c2] 22)).alloc (.cells #[.bool fl] 4)).heap[w.heap.size]? = some (.cells #[.slice a2 n2 c2] 22 (0, 0)) := heap_alloc_at (heap_alloc_own w _)
  have hL2 : ((w.alloc (.cells #[.slice a2 n2 c2] 22)).alloc (.cells #[.bool fl] 4)).heap[w.heap.size + 1]? = some (.cells #[.bool fl] 4 (0, 0)) := by
    have := heap_alloc_own (w.alloc (.cells #[.slice a2 n2 c2] 22)) (.cells #[.bool fl] 4)
    rwa [World.size_alloc] at this
  generalize hw2 : (w.alloc (.cells #[.slice a2 n2 c2] 22)).alloc (.cells #[.bool fl] 4) = w2 at *
  clear hw2
  have i1' := i1.below (Nat.le_refl _) hB2
  have hmk : ∀ w, (Instr.makeMap 25 none).run Ybaf.prog w = .ok (.map (some w.heap.size)) (w.alloc (.map #[] 0)) := fun w => rfl
  go_cut [17] from 32 to 38 (fun v wx => ∃ tb hv mb, v = .pointer (some ⟨tb, 0, none⟩) ∧ Laid w a2 n2 c2 fl nm n1 hs before tb hv mb wx)
  case first =>
    cases a1 with
    | none =>
      obtain ⟨rfl, rfl⟩ := hnil rfl
      go_wp2_with (at_builtin; refine wpList_append_own_none rfl _ _ 22 rfl w2.heap.size 9 i0 1 Ybaf.underlying22 hi _ 0 [] rfl (World.ownsRow_nil _ _ _ _) rfl ?_)
      go_meet
      case rel =>
        have := laid_of (nm := nm) (n1 := 0) (hs := hs) (before := before) (hv := .slice none 0 0) hB2 (by omega) hF2 hL2 (fun h => absurd h (by omega))
        rw [hS] at this
        exact ⟨_, _, _, rfl, this⟩
    | some x =>
      have hlen := i1.len
      have h1c : ∀ u ∈ hs.map Value.string, u.oneCell' = true := fun u hu => by obtain ⟨z, _, rfl⟩ := List.mem_map.1 hu; rfl
      have hlz : (hs.map Value.string).length = n1 * 1 := by simp; omega
      have hcz : ∀ j u, (hs.map Value.string)[j]? = some u → w2.cell? (x.add j) = some u := fun j u hu => by
        rw [List.getElem?_map] at hu
        obtain ⟨z, hz, rfl⟩ := Option.map_eq_some_iff.1 hu
        have hj : j < n1 := by rw [← hlen]; exact (List.getElem?_eq_some_iff.1 hz).1
        obtain ⟨b, off, e, hc⟩ := i1'.cell (by omega)
        obtain rfl := Option.some.inj e
        rw [Addr.add_lit, hc j hj, List.getD_eq_getElem?_getD, hz]
        rfl
      go_wp2_with (at_builtin; refine wpList_append_own _ rfl _ _ 22 rfl w2.heap.size 9 i0 (.string ByteArray.empty) 1 16 Ybaf.underlying22 hi hz0 hz1 hz2 rfl (by decide) _ 0 [] rfl (World.ownsRow_nil _ _ _ _) x n1 c1 (hs.map Value.string) rfl hlz hcz h1c (by unfold maxLen; omega) (by omega) (Nat.le_refl _) ?_; intro v3 w3 hown3 hgrow3 _; obtain ⟨a3, c3, rfl⟩ := slice_of_own hown3)
      go_meet
      case rel =>
        have hsz3 := hgrow3.size
        refine ⟨_, _, _, rfl, laid_of (nm := nm) (n1 := n1) (hs := hs) (before := before) (hB2.grown hgrow3 (by omega) (fun k hk => by cases hk)) (by omega) ((hgrow3.block _ (by omega) (fun e => by cases e)).trans hF2) ((hgrow3.block _ (by omega) (fun e => by cases e)).trans hL2) (fun h0 => ?_)⟩
        rcases hown3.2 with ⟨_, e⟩ | ⟨g, cap, cur, e, _, hgc, _, _, _, htk⟩
        · omega
        · refine ⟨g, cap, by simpa using e, fun j hj => ?_⟩
          have e2 : cur.toList[j]? = some (.string (hs.getD j ByteArray.empty)) := by
            have hj2 : (cur.toList.take ((0 + n1) * 1))[j]? = ([] ++ hs.map Value.string)[j]? := by rw [htk]
            rw [List.getElem?_take, if_pos (by omega)] at hj2
            rw [hj2, List.nil_append, List.getElem?_map, List.getD_eq_getElem?_getD, List.getElem?_eq_getElem (by omega)]
            rfl
          simp only [World.cell?, hgc, Nat.zero_add]
          simpa using e2
  case rest =>
  obtain ⟨tb, hv, mb, rfl, hL⟩ := hcut
  clear hS hB2 hF2 hL2 i1' hmk hi hz0 hz1 hz2 t1 t2
  go_upto_region 4 with fail
  go_cut [18] from 39 to 42 (fun v wx => ∃ nt : Int, v = .int .i64 nt ∧ nt < 0 ∧ wx = wc)
  case first =>
    go_wp2
    go_meet
    case rel =>
      exact ⟨_, rfl, by omega, rfl⟩
  case rest =>
  rename_i wd
  obtain ⟨nt, rfl, hnt, rfl⟩ := hcut
  go_upto_region 5 with fail
  go_cut [50] from 43 to 49 (fun v wx => ∃ b : Bool, v = .bool b ∧ (b = true → 0 < n1) ∧ wx = wc)
  case first =>
    by_cases hodd : sel % 2 = 1
    · by_cases hp : 0 < n1
      · go_wp2
        go_meet
        case rel => exact ⟨_, rfl, fun _ => hp, rfl⟩
      · go_wp2
        go_meet
        case rel => exact ⟨_, rfl, fun h => by simp at h, rfl⟩
    · go_wp2
      go_meet
      case rel => exact ⟨_, rfl, fun h => by simp at h, rfl⟩
  case rest =>
  rename_i we
  obtain ⟨b, rfl, hb, rfl⟩ := hcut
  go_upto_if 50 with fail
  go_cut [18] from 51 to 56 (fun v wx => ∃ nt, v = .int .i64 nt ∧ (nt < 0 ∨ ∃ q : Nat, nt = q ∧ q < n1) ∧ wx = wc)
  case first =>
    cases b
    · go_wp2
      go_meet
      case rel => exact ⟨_, rfl, .inl hnt, rfl⟩
    · have hp := hb rfl
      go_wp2
      go_meet
      case rel =>
        have hq0 : 0 ≤ pick % (n1 : Int) := Int.emod_nonneg _ (by omega)
        have hq1 : pick % (n1 : Int) < n1 := Int.emod_lt_of_pos _ (by omega)
        have hw : wrap64 (pick % (n1 : Int)) = pick % (n1 : Int) := by unfold wrap64; omega
        rw [hw]
        exact ⟨_, rfl, .inr ⟨(pick % (n1 : Int)).toNat, by omega, by omega⟩, rfl⟩
  case rest =>
  rename_i wf
  obtain ⟨nt', rfl, hnt', rfl⟩ := hcut
  clear hnt hb
  go_wp2_with fail
  refine (new_any _ wc).mono ?_
  rintro e w5 ⟨rfl, rfl⟩
  go_upto_region 11 with fail
  have hR := ready_of { data := #[122, 122, 32, 114, 101, 102, 117, 115, 101, 100] } hL
  generalize (((wc.alloc (.cells #[.string { data := #[122, 122, 32, 114, 101, 102, 117, 115, 101, 100] }] 41)).alloc (.cells #[.iface 39 (.pointer (some ⟨wc.heap.size, 0, none⟩))] 31)).alloc (.cells #[.int .i64 0] 3)).alloc (.cells #[.bool true] 4) = w6 at *
  clear hL
  generalize wc.heap.size = N at *
  have HR : Hid (Ready w a2 n2 c2 fl nm n1 hs before tb hv mb N w6) := hR
  obtain ⟨⟨q1, q2, q3, q4, q5, q6⟩, q7, q8, ⟨zz, q9⟩, q10, q11, q12⟩ := hR
  have hg6 : w6.cell? ⟨0, 0, none⟩ = some (.iface 39 (.pointer (some ga))) := (q1.cell (World.block_lt_of_cell? w _ hg)).trans hg
  have hga6 : w6.cell? ga = some (.string gt) := (q1.cell (World.block_lt_of_cell? w _ hga)).trans hga
  have hgl := World.block_lt_of_cell? w _ hga
  have hgb6 := (q1.block _ hgl).trans hgb
  have c6 : w6.cell? ⟨w.heap.size, 0, none⟩ = some (.slice a2 n2 c2) := by simp [World.cell?, q3]
  have hl1 : w.heap.size < w6.heap.size := lt_of_heap q3
  have hl2 : N + 1 + 1 + 1 < w6.heap.size := lt_of_heap q12
  rcases hnt' with hneg | ⟨q, rfl, hq⟩
  · go_wp2_with fail
    refine (read_text w tb nm zz hv mb before line nt' a2 n2 c2 fs (N + 1 + 1) w.heap.size (N + 1 + 1 + 1) (w.heap.size + 1) (N + 1) fl ⟨N, 0, none⟩ w6 hneg h2 q1 i2 (by omega) (by omega) q5 q11 q3 q4 q10 (by simp [World.cell?, q9]) (by omega) (by omega) (by omega) (by show N ≠ N + 1 + 1; omega) (by omega) (by omega) (by omega) (by show N ≠ tb; omega) (by omega)).mono ?_
    rintro e w7 ⟨x1, x2, x3, x4, x5, x6⟩
    have y1 : w7.cell? ⟨N + 1 + 1, 0, none⟩ = some (.int .i64 1) := by simp [World.cell?, x3]
    have y2 : w7.cell? ⟨N + 1 + 1 + 1, 0, none⟩ = some (.bool true) := by
      have := (x4 (N + 1 + 1 + 1) hl2 (by omega) (by omega)).trans q12
      simp [World.cell?, this]
    have y3 : w7.cell? ⟨tb, 7, none⟩ = some (.int .i64 line) := by simp [World.cell?, x2]
    have y4 : w7.cell? ⟨w.heap.size + 1, 0, none⟩ = some (.bool fl) := by
      have := (x4 (w.heap.size + 1) (lt_of_heap q4) (by omega) (by omega)).trans q4
      simp [World.cell?, this]
    have y5 : w7.cell? ⟨N + 1, 0, none⟩ = some (.iface 39 (.pointer (some ⟨N, 0, none⟩))) := by
      have := (x4 (N + 1) (lt_of_heap q10) (by omega) (by omega)).trans q10
      simp [World.cell?, this]
    have y6 : w7.heap[(⟨N, 0, none⟩ : Addr).block]? = some (.cells #[.string zz] 41 (0, 0)) := (x4 N (lt_of_heap q9) (by omega) (by omega)).trans q9
    have y7 : w7.cell? ⟨0, 0, none⟩ = some (.iface 39 (.pointer (some ga))) := (x1.cell (World.block_lt_of_cell? w _ hg)).trans hg
    have y8 := (x1.block _ hgl).trans hgb
    have hne : (⟨N, 0, none⟩ : Addr) ≠ ga := fun e => by rw [← e] at hgl; simp at hgl; omega
    clear q3 q4 q5 q6 q9 q10 q11 q12 hg6 hga6 hgb6 c6 x2 x3 x4 hg hga hgb
    cases fl
    · obtain rfl := x5 rfl
      go_wp2
      go_ret
      exact ⟨rfl, x1⟩
    · obtain ⟨p, rfl, hp⟩ := x6 rfl
      have hnq := run_neq_iface_types (P := Ybaf.prog) 50 39 (.pointer (some ⟨p, 0, none⟩)) (.pointer (some ⟨N, 0, none⟩)) Ybaf.underlying31 (by decide) w7
      go_wp2_with fail
      refine (is_wrap_same p 0 ⟨N, 0, none⟩ w7 hp).mono ?_
      rintro e w8 ⟨rfl, rfl⟩
      go_wp2_with fail
      refine (is_wrap_other p 0 ga ⟨N, 0, none⟩ _ _ _ _ _ hp hne y6 y8).mono ?_
      rintro e w8 ⟨rfl, rfl⟩
      go_wp2
      go_ret
      exact ⟨rfl, x1⟩
  · obtain ⟨g, hc, rfl, hcell⟩ := q6 (by omega)
    go_wp2_with fail
    refine (read_bad tb nm _ gt g 0 n1 hc mb before line q q ga _ _ w6 hg6 q5 rfl hq (hcell q hq) hga6).mono ?_
    rintro e w7 ⟨hB7, p, r, rfl, hp, hr⟩
    have x1 : Below w.heap.size w w7 := q1.trans (hB7.mono (by omega))
    have y1 : w7.cell? ⟨N + 1 + 1, 0, none⟩ = some (.int .i64 0) := by
      have := (hB7.block (N + 1 + 1) (lt_of_heap q11)).trans q11
      simp [World.cell?, this]
    have y3 : w7.cell? ⟨tb, 7, none⟩ = some (.int .i64 before) := by
      have := (hB7.block tb (lt_of_heap q5)).trans q5
      simp [World.cell?, this]
    have y5 : w7.cell? ⟨N + 1, 0, none⟩ = some (.iface 39 (.pointer (some ⟨N, 0, none⟩))) := by
      have := (hB7.block (N + 1) (lt_of_heap q10)).trans q10
      simp [World.cell?, this]
    have y6 : w7.heap[(⟨N, 0, none⟩ : Addr).block]? = some (.cells #[.string zz] 41 (0, 0)) := (hB7.block N (lt_of_heap q9)).trans q9
    have y7 : w7.cell? ⟨0, 0, none⟩ = some (.iface 39 (.pointer (some ga))) := (x1.cell (World.block_lt_of_cell? w _ hg)).trans hg
    have y8 := (x1.block _ hgl).trans hgb
    have hne : ga ≠ (⟨N, 0, none⟩ : Addr) := fun e => by rw [e] at hgl; simp at hgl; omega
    have tq : decide ((q : Int) ≥ 0) = true := by simp
    clear q3 q4 q5 q6 q9 q10 q11 q12 hg6 hga6 hgb6 c6 hg hga hgb hB7 hcell
    go_wp2_with fail
    refine (is_wrap2_same p 0 r 0 ga w7 hp hr).mono ?_
    rintro e w8 ⟨rfl, rfl⟩
    go_wp2_with fail
    refine (is_wrap2_other p 0 r 0 ⟨N, 0, none⟩ ga _ _ _ _ _ hp hr hne y8 y6).mono ?_
    rintro e w8 ⟨rfl, rfl⟩
    go_wp2
    go_ret
    exact ⟨rfl, x1⟩

end Go.Proofs.YbulkcqkgFmt
