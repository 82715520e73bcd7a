import Derived.Test.YbulkcqhoRows
import Derived.Test.YbulkcqhoLocks
import Derived.Conc.MuLone
import Derived.WalkKit
import Derived.WalkSpells
namespace Go.Proofs.Ybulkcqho
open Go.RowKit Go.MuLone

/-- A cell written and written back: nothing has turned. -/
theorem setCell_back {w : World} {a : Addr} {v u : Value} (h : w.cell? a = some v) : (w.setCell a u).setCell a v = w := by
  obtain ⟨b, o, sp⟩ := a
  cases hb : w.heap[b]? with
  | none => simp [World.cell?, hb] at h
  | some ob =>
    cases ob with
    | cells cs e fz =>
      have hlt : b < w.heap.size := lt_of_block hb
      have hg : w.heap[b] = .cells cs e fz := by simpa [Array.getElem?_eq_getElem hlt] using hb
      simp only [World.cell?, hb] at h
      cases sp with
      | some x => simp at h
      | none =>
        simp at h
        obtain ⟨ho, hv⟩ := Array.getElem?_eq_some_iff.1 h
        have hh : ((w.setCell ⟨b, o, none⟩ u).setCell ⟨b, o, none⟩ v).heap = w.heap := by
          apply Array.ext
          · simp [World.setCell]
          · intro i h1 h2
            by_cases hi : i = b
            · subst hi
              simp only [World.setCell, Array.getElem_modify_self]
              rw [hg]
              simp
              apply Array.ext
              · simp
              · intro j j1 j2
                by_cases hj : j = o
                · subst hj; simp [hv]
                · rw [Array.getElem_setIfInBounds]; rw [if_neg (Ne.symm hj)]
            · simp only [World.setCell]
              rw [Array.getElem_modify_of_ne (Ne.symm hi), Array.getElem_modify_of_ne (Ne.symm hi)]
        have e : ∀ (a b : World), a.heap = b.heap → a.tape = b.tape → a.drawn = b.drawn → a.os = b.os → a.output = b.output → a = b := fun a b h1 h2 h3 h4 h5 => by
          cases a; cases b; simp_all
        exact e _ _ hh rfl rfl rfl rfl
    | _ => simp [World.cell?, hb] at h

def one (hd : Bool) : Int := if hd then 1 else 0

set_option maxHeartbeats 400000 in
theorem unhandled_any (b n c : Nat) (a : Option Addr) (hd : Bool) (w : World) (hn : n ≤ 4096)
    (h10 : w.cell? ⟨b, 10, none⟩ = some (.slice a n c)) (h11 : w.cell? ⟨b, 11, none⟩ = some (.bool hd)) :
    Calls Yba.prog 9 #[.pointer (some ⟨b, 0, none⟩)] w fun e w' => e = .returned (.int .i64 (n + one hd)) ∧ w' = w := by
  cases hd <;>
  · go_enter Yba.func9, Yba.ntmps9
    go_wp2
    go_ret
    exact ⟨by simp [one], rfl⟩

set_option maxHeartbeats 400000 in
theorem len_any (b n c : Nat) (a : Option Addr) (hd : Bool) (w : World) (hn : n ≤ 4096)
    (h1 : w.cell? ⟨b, 1, none⟩ = some (.int .i32 0)) (f1 : w.frozen? ⟨b, 1, none⟩ = false)
    (h10 : w.cell? ⟨b, 10, none⟩ = some (.slice a n c)) (h11 : w.cell? ⟨b, 11, none⟩ = some (.bool hd)) :
    Calls Yba.prog 5 #[.pointer (some ⟨b, 0, none⟩)] w fun e w' => e = .returned (.int .i64 (n + one hd)) ∧ w' = w := by
  have e10 : (w.setCell ⟨b, 1, none⟩ (.int .i32 1)).cell? ⟨b, 10, none⟩ = some (.slice a n c) := by
    rw [World.cell?_setCell_other _ _ _ _ (by simp)]; exact h10
  have e11 : (w.setCell ⟨b, 1, none⟩ (.int .i32 1)).cell? ⟨b, 11, none⟩ = some (.bool hd) := by
    rw [World.cell?_setCell_other _ _ _ _ (by simp)]; exact h11
  go_enter_defers Yba.func5, Yba.ntmps5
  go_wp2_with (first
    | (go_at_call 7; refine (lock_free Yba.muLib ⟨b, 1, none⟩ _ h1 f1).mono ?_; rintro e w' ⟨rfl, rfl⟩)
    | (go_at_call 9; refine (unhandled_any b n c a hd _ hn e10 e11).mono ?_; rintro e w' ⟨rfl, rfl⟩))
  refine leaves_cons (f := 8) (args := #[.pointer (some ⟨b, 1, none⟩)]) (by simp) (by simp [go_sem]) ?_
  refine (unlock_deferred Yba.muLib ⟨b, 1, none⟩ .returning _ ?_ ?_).mono ?_
  · exact World.cell?_setCell_same w ⟨b, 1, none⟩ (.int .i32 1) h1
  · simp [f1]
  rintro e u' w'' ⟨rfl, rfl, rfl⟩
  exact ⟨_, results_tmp rfl _ _ _, rfl, setCell_back h1⟩

end Go.Proofs.Ybulkcqho
