/-
  A RECEIVE FROM A CLOSED, EMPTY CHANNEL INSIDE A PLAIN REGION, for the kit's 'Code.wp' (which is said over the machine's own steps): ahead of it operations that yield a value.
-/
import Derived.Conc.LoneCalls
import Derived.Tactics
namespace Go.Proofs.Ybulkcqho
open Go.Conc
section
variable {P : Program} {ops : Array Oper} {Q : Exit → Act → World → Prop}

/-- The operations l of the region, run from (a, w), come to an exit of which Q holds. -/
def OpsS (P : Program) (ops : Array Oper) (Q : Exit → Act → World → Prop) (l : List Nat) (a : Act) (w : World) : Prop :=
  ∀ (b : Frame) (k : List Item) (cs : List Frame), ∃ e a' w', Q e a' w' ∧ Arrives P (lone (b.at a (.inRegion ops l :: k)) cs w) b k cs e a' w'

theorem opsS_of_wpOps {l : List Nat} {a : Act} {w : World} (h : wpOps P ops Q l a w) : OpsS P ops Q l a w := fun b k cs => wp_ops l a w h b k cs

theorem opsS_value {i : Nat} {rest : List Nat} {o : Oper} {a : Act} {w w' : World} {v : Value} (ho : ops[i]? = some o) (hg : o.guard = none)
    (hr : (execOp a.eval o).run P w = .ok (.value v) w') (h : OpsS P ops Q rest (a.put o.dst v) w') : OpsS P ops Q (i :: rest) a w := by
  intro b k cs
  obtain ⟨e, a', w'', hq, harr⟩ := h b k cs
  have hg := stepG_op (P := P) (b := b) (k := k) (cs := cs) (w := w) (a := a) (rest := rest) ho (by simp [Region.wanted, hg])
  have hfin : (b.at a (.inRegion ops (i :: rest) :: k)).finish v = b.at (a.put o.dst v) (.inRegion ops rest :: k) := by rw [Frame.finish_at, ho]; rfl
  refine ⟨e, a', w'', hq, .of_steps (.one (step_lone_go ?_)) harr⟩
  rw [hg, ← hfin]; simp [stepG.apply, hr]

theorem opsS_recv_shut {i : Nat} {rest : List Nat} {o : Oper} {a : Act} {w : World} {c cap s r : Nat} {z : Value} {tm ok : Bool} (ho : ops[i]? = some o) (hg : o.guard = none)
    (hr : (execOp a.eval o).run P w = .ok (.comm #[rcase c z] true (.recv ok)) w) (hc : w.heap[c]? = some (.chan cap #[] true s r tm))
    (h : OpsS P ops Q rest (a.put o.dst (got ok z false)) w) : OpsS P ops Q (i :: rest) a w := by
  intro b k cs
  obtain ⟨e, a', w'', hq, harr⟩ := h b k cs
  have hg := stepG_op (P := P) (b := b) (k := k) (cs := cs) (w := w) (a := a) (rest := rest) ho (by simp [Region.wanted, hg])
  have hfin : (b.at a (.inRegion ops (i :: rest) :: k)).finish (got ok z false) = b.at (a.put o.dst (got ok z false)) (.inRegion ops rest :: k) := by rw [Frame.finish_at, ho]; rfl
  have hstep : ∃ es, stepG P true (G (b.at a (.inRegion ops (i :: rest) :: k)) cs) w = .comm (G (b.at a (.inRegion ops (i :: rest) :: k)) cs) #[rcase c z] true (.recv ok) w es := by
    unfold G
    rw [hg]
    simp [stepG.apply, hr, GStep.after]
  obtain ⟨es, hes⟩ := hstep
  have h1 := step_lone_recv_shut (P := P) ok hes hc
  rw [hfin] at h1
  exact ⟨e, a', w'', hq, .of_steps (.one h1) harr⟩

/-- Behind the receive the walk goes on over the operations that are left. -/
theorem opsS_tail {l1 l2 : List Oper} {a : Act} {w : World} (ho : ops = (l1 ++ l2).toArray) (h : wpList P ops Q l2 a w) : OpsS P ops Q (List.range' l1.length l2.length) a w := by
  refine opsS_of_wpOps ?_
  rw [wpOps_eq_wpList l2 l1.length (fun j => by rw [ho]; simp [List.getElem?_append_right])]
  exact h

theorem wp_region_opsS {id : Nat} {a : Act} {w : World} (h : OpsS P ops Q (List.range ops.size) a w) : (Code.region id ops false).wp P Q a w :=
  fun b k cs => let ⟨e, a', w', q, r⟩ := h b k cs; ⟨e, a', w', q, .of_steps (.one step_region) r⟩
end
end Go.Proofs.Ybulkcqho
