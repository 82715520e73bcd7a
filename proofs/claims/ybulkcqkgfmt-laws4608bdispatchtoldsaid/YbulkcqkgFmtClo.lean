/-
  The walk of the law's own closure: it counts its call, compares what it was handed with the fields, and answers the refusal or nil.
-/
import Derived.Test.YbulkcqkgFmtFacts
import Derived.BigQuiet
import Derived.Deep.QuietTactic
import Derived.Deep.CutBlock
import Derived.Deep.CutRange
import Derived.Deep.LoopGhost
import Derived.ChangeAlike
import Derived.WalkSpells
namespace Go.Proofs.YbulkcqkgFmt
open Go.RowKit

/-- What is known of a []string: m elements, the strings ss. -/
structure IsStrs (w : World) (a : Option Addr) (m : Nat) (ss : List ByteArray) : Prop where
  len : ss.length = m
  cell : 0 < m → ∃ b off, a = some ⟨b, off, none⟩ ∧ ∀ j, j < m → w.cell? ⟨b, off + j, none⟩ = some (.string (ss.getD j ByteArray.empty))

theorem IsStrs.below {w w' : World} {a : Option Addr} {m : Nat} {ss : List ByteArray} (h : IsStrs w a m ss) {B : Nat} (hB : w.heap.size ≤ B) (hw : Below B w w') : IsStrs w' a m ss :=
  ⟨h.len, fun h0 => by
    obtain ⟨b, off, rfl, hc⟩ := h.cell h0
    exact ⟨b, off, rfl, fun j hj => (hw.cell (Nat.lt_of_lt_of_le (World.block_lt_of_cell? w _ (hc j hj)) hB)).trans (hc j hj)⟩⟩

/-- Two worlds that differ in the count of draws at most. -/
def _root_.Go.World.Twin (w' w : World) : Prop := w'.heap = w.heap ∧ w'.os = w.os ∧ w'.output = w.output ∧ w'.tape = w.tape

theorem clo_any (sl : Option Addr) (n c : Nat) (ss : List ByteArray) (cb fb sb lb wb : Nat) (fl : Bool) (ev : Value) (w : World) (hn : n ≤ 1024)
    (hcb : w.heap[cb]? = some (.cells #[.int .i64 0] 3 (0, 0))) (hfb : w.heap[fb]? = some (.cells #[.slice sl n c] 22 (0, 0)))
    (hlb : w.heap[lb]? = some (.cells #[.bool fl] 4 (0, 0))) (hwb : w.heap[wb]? = some (.cells #[ev] 31 (0, 0)))
    (n1 : fb ≠ cb) (n2 : lb ≠ cb) (n3 : wb ≠ cb) (hs : IsStrs (w.setCell ⟨cb, 0, none⟩ (.int .i64 1)) sl n ss) :
    Calls Ybaf.prog 5 #[.slice sl n c, .pointer (some ⟨cb, 0, none⟩), .pointer (some ⟨fb, 0, none⟩), .pointer (some ⟨sb, 0, none⟩), .pointer (some ⟨lb, 0, none⟩), .pointer (some ⟨wb, 0, none⟩)] w
      fun e w' => e = .returned (if fl then ev else .nilIface) ∧ w'.Twin (w.setCell ⟨cb, 0, none⟩ (.int .i64 1)) := by
  have k0 : w.cell? ⟨cb, 0, none⟩ = some (.int .i64 0) := by simp [World.cell?, hcb]
  have k0' : w.frozen? ⟨cb, 0, none⟩ = false := by simp [World.frozen?, hcb]
  have hh : ∀ b, b ≠ cb → (w.setCell ⟨cb, 0, none⟩ (.int .i64 1)).heap[b]? = w.heap[b]? := fun b hb => Below.heap_setCell _ _ _ _ hb
  have k1 : (w.setCell ⟨cb, 0, none⟩ (.int .i64 1)).cell? ⟨fb, 0, none⟩ = some (.slice sl n c) := by simp [World.cell?, hh fb n1, hfb]
  have k2 : (w.setCell ⟨cb, 0, none⟩ (.int .i64 1)).cell? ⟨lb, 0, none⟩ = some (.bool fl) := by simp [World.cell?, hh lb n2, hlb]
  have k3 : (w.setCell ⟨cb, 0, none⟩ (.int .i64 1)).cell? ⟨wb, 0, none⟩ = some ev := by simp [World.cell?, hh wb n3, hwb]
  clear hh hcb hfb hlb hwb
  generalize hw1 : w.setCell ⟨cb, 0, none⟩ (.int .i64 1) = w1 at *
  have tn : (((n : Int) == n)) = true := by simp
  go_enter Ybaf.func5, Ybaf.ntmps5
  go_upto_block 0 with fail
  go_cut [8, 18] from 18 to 31 (fun _ _ wx => wx.Twin w1)
  case first =>
    go_wp2_with fail
    go_loopg [8, 18] n (fun g _ i wr => ∃ k : Nat, k + g = n ∧ i = .int .i64 k ∧ wr.Twin w1)
    case atStart => exact ⟨0, by omega, rfl, rfl, rfl, rfl, rfl⟩
    case round =>
      obtain ⟨k, hk, rfl, hal⟩ := hrel
      have HK : Hid (k + gk = n) := hk
      by_cases hlt : k < n
      · have tk : decide ((k : Int) < n) = true := by simpa using hlt
        obtain ⟨b, off, rfl, hc⟩ := hs.cell (by omega)
        have hck : wr.cell? ⟨b, off + k, none⟩ = some (.string (ss.getD k ByteArray.empty)) := by
          rw [World.cell?_of_block (w := w1) (by rw [hal.1])]; exact hc k hlt
        have h1 : wr.cell? ⟨fb, 0, none⟩ = some (.slice (some ⟨b, off, none⟩) n c) := by
          rw [World.cell?_of_block (w := w1) (by rw [hal.1])]; exact k1
        have i0 : (0 : Int) ≤ (k : Int) := by omega
        have i1 : (k : Int) < (n : Int) := by omega
        clear hk hlt hc
        go_wp2_with fail
        go_quiet (fail)
        go_wp2
        go_roundg (gk - 1)
        case measure => have := HK.out; omega
        case rel => exact ⟨k + 1, by have := HK.out; omega, by go_num, hal⟩
      · have tk : decide ((k : Int) < n) = false := by simpa using hlt
        go_wp2_with fail
        go_meet
        case rel => exact hal
  case rest =>
  have e2 : wc.cell? ⟨lb, 0, none⟩ = some (.bool fl) := by rw [World.cell?_of_block (w := w1) (by rw [hcut.1])]; exact k2
  have e3 : wc.cell? ⟨wb, 0, none⟩ = some ev := by rw [World.cell?_of_block (w := w1) (by rw [hcut.1])]; exact k3
  cases fl
  · go_wp2
    go_ret
    exact ⟨rfl, hcut⟩
  · go_wp2
    go_ret
    exact ⟨rfl, hcut⟩

end Go.Proofs.YbulkcqkgFmt
