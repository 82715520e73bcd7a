/-
  Closed facts for the walk over fmt's stopped front at this program (turned from the guide's worked SentryFmt), and fmt.Errorf by its contracts.
-/
import Derived.Test.YbulkcqkgFmtIs
import Derived.Stop.CallBack
import Derived.Stop.IfaceNil
import GoSem.ClaimData
namespace Go.Proofs.YbulkcqkgFmt
open Go.RowKit Go.Extern.Stop Go.Stop Go.Extern

theorem Ybaf.call12 (args : Array Value) (w : World) : (callFunc 12 args).run Ybaf.prog w = ((FmtStop.errorf #[9, 49] #[31] args).run Ybaf.prog w).andThen fun v w' => .ok (.value v) w' :=
  run_callFunc_extern Ybaf.func12 (by kernel_rfl) (by kernel_rfl) (by kernel_rfl) (by kernel_rfl) args w
theorem Ybaf.guard (name : String) (w : World) : (FmtStop.guard name).run Ybaf.prog w = .ok () w := by kernel_rfl
abbrev fA : ByteArray := ⟨#[37, 115, 58, 32, 37, 119]⟩
abbrev fB : ByteArray := ⟨#[37, 115, 58, 37, 100, 58, 32, 37, 119]⟩
theorem Ybaf.fmt0 : FmtStop.printed? fA 2 = some [(0, 115, false), (1, 119, false)] := by kernel_rfl
theorem Ybaf.fmt0r (w : World) : (FmtDoors.printed fA 2).run Ybaf.prog w = .ok [(0, 115, false), (1, 119, false)] w := by kernel_rfl
theorem Ybaf.fmt1 : FmtStop.printed? fB 3 = some [(0, 115, false), (1, 100, false), (2, 119, false)] := by kernel_rfl
theorem Ybaf.fmt1r (w : World) : (FmtDoors.printed fB 3).run Ybaf.prog w = .ok [(0, 115, false), (1, 100, false), (2, 119, false)] w := by kernel_rfl
def Ybaf.shape3 : List UInt8 := [5, 3, 0, 0, 0, 0, 0, 0, 0, 105, 110, 116]
theorem Ybaf.op3_100w (name : String) (x : Int) (w : World) : (FmtStop.operand name true 100 false (.iface 3 (.int .i64 x))).run Ybaf.prog w = .ok (Ybaf.shape3, Go.Extern.Stop.digits 8 (x % 2 ^ 64).toNat) w := by kernel_rfl
theorem Ybaf.ptr39 (w : World) : (FmtStop.ptrTo "errors.errorString").run Ybaf.prog w = .ok 39 w := by kernel_rfl
theorem Ybaf.elem39 (w : World) : (elemOf 39).run Ybaf.prog w = .ok 41 w := by kernel_rfl
theorem Ybaf.isError39 (w : World) : (FmtDoors.textMethod 39 "Error").run Ybaf.prog w = .ok true w := by kernel_rfl
theorem Ybaf.ptr50 (w : World) : (FmtStop.ptrTo "fmt.wrapError").run Ybaf.prog w = .ok 50 w := by kernel_rfl
theorem Ybaf.elem50 (w : World) : (elemOf 50).run Ybaf.prog w = .ok 91 w := by kernel_rfl
theorem Ybaf.isError50 (w : World) : (FmtDoors.textMethod 50 "Error").run Ybaf.prog w = .ok true w := by kernel_rfl
/-- A star ahead of a name. -/
abbrev starred (s : String) : String := String.push "" (Char.ofNat 42) ++ s
def Ybaf.plain39 : List UInt8 := 14 :: FmtStop.pack (starred "errors.errorString").toUTF8.data.toList
def Ybaf.plain50 : List UInt8 := 14 :: FmtStop.pack (starred "fmt.wrapError").toUTF8.data.toList
theorem Ybaf.op39 (name : String) (a : Addr) (s : ByteArray) (w : World) (hc : w.cell? a = some (.string s)) :
    (FmtStop.operand name true 119 false (.iface 39 (.pointer (some a)))).run Ybaf.prog w = .ok (Ybaf.plain39, s.data.toList) w := by
  have h1 : (typeStr 39).run Ybaf.prog w = .ok (starred "errors.errorString") w := by kernel_rfl
  have d2 : Ybaf.t39.desc = .pointer 41 := rfl
  have d3 : Ybaf.t41.desc = .named "errors.errorString" 40 := rfl
  simp [FmtStop.operand, h1, d2, d3, run_load, hc, Ybaf.plain39]
theorem Ybaf.op50 (name : String) (a : Addr) (s : ByteArray) (w : World) (hc : w.cell? a = some (.string s)) :
    (FmtStop.operand name true 119 false (.iface 50 (.pointer (some a)))).run Ybaf.prog w = .ok (Ybaf.plain50, s.data.toList) w := by
  have h1 : (typeStr 50).run Ybaf.prog w = .ok (starred "fmt.wrapError") w := by kernel_rfl
  have d2 : Ybaf.t50.desc = .pointer 91 := rfl
  have d3 : Ybaf.t91.desc = .named "fmt.wrapError" 90 := rfl
  simp [FmtStop.operand, h1, d2, d3, run_load, hc, Ybaf.plain50]
def Ybaf.shape9 : List UInt8 := [12, 6, 0, 0, 0, 0, 0, 0, 0, 115, 116, 114, 105, 110, 103]
theorem Ybaf.op9 (name : String) (s : ByteArray) (w : World) : (FmtStop.operand name true 115 false (.iface 9 (.string s))).run Ybaf.prog w = .ok (Ybaf.shape9, FmtStop.pack s.data.toList) w := by kernel_rfl

theorem new_any (s : ByteArray) (w : World) :
    Calls Ybaf.prog 4 #[.string s] w fun e w' => e = .returned (.iface 39 (.pointer (some ⟨w.heap.size, 0, none⟩))) ∧ w' = w.alloc (.cells #[.string s] 41) := by
  go_enter Ybaf.func4, Ybaf.ntmps4
  go_wp2
  go_ret
  exact ⟨rfl, rfl⟩


/-- fmt.Errorf with a text and a wrapped error e, e an errors.errorString: a new *fmt.wrapError that holds e. -/
theorem errorf_two (x t : ByteArray) (a : Addr) (vb : Nat) (w : World)
    (hv : w.heap[vb]? = some (.cells #[.iface 9 (.string x), .iface 39 (.pointer (some a))] 20 (0, 0))) (hc : w.cell? a = some (.string t)) :
    Calls Ybaf.prog 8 #[.string fA, .slice (some ⟨vb, 0, none⟩) 2 2] w fun e w' => e = .returned (.iface 50 (.pointer (some ⟨w.heap.size, 0, none⟩))) ∧ ∃ s, w' = (w.alloc (.cells #[.string s, .iface 39 (.pointer (some a))] 91)).drew := by
  have k0 : w.cell? ⟨vb, 0, none⟩ = some (.iface 9 (.string x)) := by simp [World.cell?, hv]
  have k1 : w.cell? ⟨vb, 1, none⟩ = some (.iface 39 (.pointer (some a))) := by simp [World.cell?, hv]
  have h12 := Ybaf.call12
  have hg := Ybaf.guard
  have f0 := Ybaf.fmt0
  have f0r := Ybaf.fmt0r
  have o9 := Ybaf.op9
  have o39 := Ybaf.op39 "fmt.errorf" a t w hc
  have p1 := Ybaf.ptr50
  have p2 := Ybaf.elem50
  have p3 := Ybaf.isError50
  have p4 := Ybaf.isError39
  go_enter Ybaf.func8, Ybaf.ntmps8
  go_wp2
  go_ret
  exact ⟨rfl, _, rfl⟩

/-- fmt.Errorf with a text, a number and a wrapped error e, e an errors.errorString or a fmt.wrapError. -/
theorem errorf_three (x t : ByteArray) (n : Int) (E : TypeId) (a : Addr) (vb : Nat) (w : World) (hE : E = 39 ∨ E = 50)
    (hv : w.heap[vb]? = some (.cells #[.iface 9 (.string x), .iface 3 (.int .i64 n), .iface E (.pointer (some a))] 20 (0, 0))) (hc : w.cell? a = some (.string t)) :
    Calls Ybaf.prog 8 #[.string fB, .slice (some ⟨vb, 0, none⟩) 3 3] w fun e w' => e = .returned (.iface 50 (.pointer (some ⟨w.heap.size, 0, none⟩))) ∧ ∃ s, w' = (w.alloc (.cells #[.string s, .iface E (.pointer (some a))] 91)).drew := by
  have k0 : w.cell? ⟨vb, 0, none⟩ = some (.iface 9 (.string x)) := by simp [World.cell?, hv]
  have k1 : w.cell? ⟨vb, 1, none⟩ = some (.iface 3 (.int .i64 n)) := by simp [World.cell?, hv]
  have k2 : w.cell? ⟨vb, 2, none⟩ = some (.iface E (.pointer (some a))) := by simp [World.cell?, hv]
  have h12 := Ybaf.call12
  have hg := Ybaf.guard
  have f0 := Ybaf.fmt1
  have f0r := Ybaf.fmt1r
  have o9 := Ybaf.op9
  have o3 := Ybaf.op3_100w
  have p1 := Ybaf.ptr50
  have p2 := Ybaf.elem50
  have p3 := Ybaf.isError50
  have p4 := Ybaf.isError39
  rcases hE with rfl | rfl
  · have o39 := Ybaf.op39 "fmt.errorf" a t w hc
    go_enter Ybaf.func8, Ybaf.ntmps8
    go_wp2
    go_ret
    exact ⟨rfl, _, rfl⟩
  · have o39 := Ybaf.op50 "fmt.errorf" a t w hc
    go_enter Ybaf.func8, Ybaf.ntmps8
    go_wp2
    go_ret
    exact ⟨rfl, _, rfl⟩

end Go.Proofs.YbulkcqkgFmt
