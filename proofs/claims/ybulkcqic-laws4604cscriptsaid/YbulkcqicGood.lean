/-
  The invariant of the slabs.
-/
import Derived.Test.YbulkcqicLst
import Derived.Test.YbulkcqicOne
namespace Go.Proofs.Ybulkcqic
open Go.RowKit

def cap (c : Nat) : Nat := 16384 / (8 * (c + 1))
def fP (S : St) (q : Nat) : Prop := Live S q ∧ getP S q 0 = 255
def pP (S : St) (c q : Nat) : Prop := Live S q ∧ getP S q 0 = (c : Int) ∧ getP S q 1 ≠ (cap c : Int)
def cP (S : St) (c q : Nat) : Prop := Live S q ∧ getP S q 0 = (c : Int)
def sum8 (f : Nat → Nat) : Nat := f 0 + f 1 + f 2 + f 3 + f 4 + f 5 + f 6 + f 7
def isF (S : St) (q : Nat) : Nat := if getP S q 0 = 255 then 1 else 0
def lnk : List Nat → Nat
  | [] => 0
  | a :: _ => a + 1
/-- The chunks of page q given back, chained through their first two bytes. -/
def Chain (S : St) (q c : Nat) : List Nat → Prop
  | [] => True
  | a :: r => S.d (q / 8) (atC q a (8 * (c + 1))) = ((lnk r % 256 : Nat) : Int) ∧ S.d (q / 8) (atC q a (8 * (c + 1)) + 1) = ((lnk r / 256 : Nat) : Int) ∧ Chain S q c r
/-- Page q, of size c: us chunks in use, hd handed out, rl given back. X: the chunks in use (page, chunk, size). -/
structure Pg (S : St) (X : List (Nat × Nat × Nat)) (q c us hd : Nat) (rl : List Nat) : Prop where
  eu : getP S q 1 = (us : Int)
  eh : getP S q 2 = (hd : Int)
  le : hd ≤ cap c
  er : getP S q 3 = (lnk rl : Int)
  ch : Chain S q c rl
  nd : rl.Nodup
  lt : ∀ a, a ∈ rl → a < hd
  xs : ∀ k, (q, k, c) ∈ X → k < hd ∧ k ∉ rl
  sum : us + rl.length = hd
  cnt : us = X.countP (fun x => x.1 == q)
structure Good (E : Nat → Prop) (S : St) (X : List (Nat × Nat × Nat)) (t : Nat) : Prop where
  nb : S.nb ≤ t
  free : ∃ n : Nat, S.w 180 = (n : Int) ∧ n ≤ 8 * t ∧ Lst S 179 (fP S) n
  part : ∀ c, c < 64 → ∃ n, Lst S (3 + c) (pP S c) n
  cls : ∀ c, c < 64 → ∃ l : List Nat, l.Nodup ∧ (∀ q, q ∈ l ↔ cP S c q) ∧ S.w (91 + c) = (l.length : Int) ∧ l.length ≤ t
  hi : ∀ c, 64 ≤ c → c < 88 → S.w (91 + c) = 0
  kind : ∀ q, Live S q → getP S q 0 = 255 ∨ ∃ c : Nat, c < 64 ∧ getP S q 0 = (c : Int)
  bf : ∀ i, i < S.nb → S.live i = true → S.b i 49 = (sum8 (fun k => isF S (i * 8 + k)) : Int)
  pg : ∀ q c, c < 64 → cP S c q → ∃ us hd rl, Pg S X q c us hd rl ∧ (¬ E q → 0 < us)
  xs : ∀ x, x ∈ X → x.2.2 < 64 ∧ cP S x.2.2 x.1
  nd : X.Nodup

theorem Chain.frame {S S' : St} {q c : Nat} (hd : ∀ o, S'.d (q / 8) o = S.d (q / 8) o) : ∀ (rl : List Nat), Chain S q c rl → Chain S' q c rl
  | [], _ => trivial
  | _ :: r, h => ⟨(hd _).trans h.1, (hd _).trans h.2.1, Chain.frame hd r h.2.2⟩
theorem Pg.frame {S S' : St} {X : List (Nat × Nat × Nat)} {q c us hd : Nat} {rl : List Nat} (h : Pg S X q c us hd rl) (hg : ∀ f, f < 4 → getP S' q f = getP S q f) (hdd : ∀ o, S'.d (q / 8) o = S.d (q / 8) o) : Pg S' X q c us hd rl :=
  ⟨(hg 1 (by omega)).trans h.eu, (hg 2 (by omega)).trans h.eh, h.le, (hg 3 (by omega)).trans h.er, Chain.frame hdd rl h.ch, h.nd, h.lt, h.xs, h.sum, h.cnt⟩
theorem cap_bounds (c : Nat) (hc : c < 64) : 32 ≤ cap c ∧ cap c ≤ 2048 ∧ cap c * (8 * (c + 1)) ≤ 16384 := cap_ge c _ hc rfl

theorem sum8_up (f f' : Nat → Nat) (r : Nat) (hr : r < 8) (h0 : f r = 0) (h1 : f' r = 1) (h : ∀ k, k ≠ r → f' k = f k) : sum8 f' = sum8 f + 1 := by
  unfold sum8
  have e := fun k => h k
  obtain rfl | rfl | rfl | rfl | rfl | rfl | rfl | rfl : r = 0 ∨ r = 1 ∨ r = 2 ∨ r = 3 ∨ r = 4 ∨ r = 5 ∨ r = 6 ∨ r = 7 := by omega
  · rw [e 1 (by omega), e 2 (by omega), e 3 (by omega), e 4 (by omega), e 5 (by omega), e 6 (by omega), e 7 (by omega)]; omega
  · rw [e 0 (by omega), e 2 (by omega), e 3 (by omega), e 4 (by omega), e 5 (by omega), e 6 (by omega), e 7 (by omega)]; omega
  · rw [e 1 (by omega), e 0 (by omega), e 3 (by omega), e 4 (by omega), e 5 (by omega), e 6 (by omega), e 7 (by omega)]; omega
  · rw [e 1 (by omega), e 2 (by omega), e 0 (by omega), e 4 (by omega), e 5 (by omega), e 6 (by omega), e 7 (by omega)]; omega
  · rw [e 1 (by omega), e 2 (by omega), e 3 (by omega), e 0 (by omega), e 5 (by omega), e 6 (by omega), e 7 (by omega)]; omega
  · rw [e 1 (by omega), e 2 (by omega), e 3 (by omega), e 4 (by omega), e 0 (by omega), e 6 (by omega), e 7 (by omega)]; omega
  · rw [e 1 (by omega), e 2 (by omega), e 3 (by omega), e 4 (by omega), e 5 (by omega), e 0 (by omega), e 7 (by omega)]; omega
  · rw [e 1 (by omega), e 2 (by omega), e 3 (by omega), e 4 (by omega), e 5 (by omega), e 6 (by omega), e 0 (by omega)]; omega
theorem sum8_congr (f f' : Nat → Nat) (h : ∀ k, k < 8 → f' k = f k) : sum8 f' = sum8 f := by
  unfold sum8
  rw [h 0 (by omega), h 1 (by omega), h 2 (by omega), h 3 (by omega), h 4 (by omega), h 5 (by omega), h 6 (by omega), h 7 (by omega)]
theorem sum8_all (f : Nat → Nat) (h1 : ∀ k, f k ≤ 1) (h : sum8 f = 8) : ∀ k, k < 8 → f k = 1 := by
  intro k hk
  unfold sum8 at h
  have a0 := h1 0
  have a1 := h1 1
  have a2 := h1 2
  have a3 := h1 3
  have a4 := h1 4
  have a5 := h1 5
  have a6 := h1 6
  have a7 := h1 7
  obtain rfl | rfl | rfl | rfl | rfl | rfl | rfl | rfl : k = 0 ∨ k = 1 ∨ k = 2 ∨ k = 3 ∨ k = 4 ∨ k = 5 ∨ k = 6 ∨ k = 7 := by omega
  all_goals omega
theorem isF_le (S : St) (q : Nat) : isF S q ≤ 1 := by
  unfold isF
  split <;> omega

theorem Good.mono {E : Nat → Prop} {S : St} {X : List (Nat × Nat × Nat)} {t t' : Nat} (h : Good E S X t) (ht : t ≤ t') : Good E S X t' where
  nb := Nat.le_trans h.nb ht
  free := by
    obtain ⟨n, h1, h2, h3⟩ := h.free
    exact ⟨n, h1, by omega, h3⟩
  part := h.part
  cls := fun c hc => by
    obtain ⟨l, h1, h2, h3, h4⟩ := h.cls c hc
    exact ⟨l, h1, h2, h3, by omega⟩
  hi := h.hi
  kind := h.kind
  bf := h.bf
  pg := h.pg
  xs := h.xs
  nd := h.nd
theorem Good.more {E E' : Nat → Prop} {S : St} {X : List (Nat × Nat × Nat)} {t : Nat} (h : Good E S X t) (hE : ∀ q, E q → E' q) : Good E' S X t where
  nb := h.nb
  free := h.free
  part := h.part
  cls := h.cls
  hi := h.hi
  kind := h.kind
  bf := h.bf
  pg := fun q c hc hq => by
    obtain ⟨us, hd, rl, h1, h2⟩ := h.pg q c hc hq
    exact ⟨us, hd, rl, h1, fun hn => h2 (fun he => hn (hE q he))⟩
  xs := h.xs
  nd := h.nd
theorem Good.perm {E : Nat → Prop} {S : St} {X Y : List (Nat × Nat × Nat)} {t : Nat} (h : Good E S X t) (hp : X.Perm Y) : Good E S Y t where
  nb := h.nb
  free := h.free
  part := h.part
  cls := h.cls
  hi := h.hi
  kind := h.kind
  bf := h.bf
  pg := fun q c hc hq => by
    obtain ⟨us, hd, rl, h1, h2⟩ := h.pg q c hc hq
    exact ⟨us, hd, rl, ⟨h1.eu, h1.eh, h1.le, h1.er, h1.ch, h1.nd, h1.lt, fun k hk => h1.xs k (hp.mem_iff.2 hk), h1.sum, h1.cnt.trans (hp.countP_eq _)⟩, h2⟩
  xs := fun x hx => h.xs x (hp.mem_iff.2 hx)
  nd := hp.nodup_iff.1 h.nd
/-- The lock is no part of it. -/
theorem Good.mu {E : Nat → Prop} {S : St} {X : List (Nat × Nat × Nat)} {t : Nat} (h : Good E S X t) (v : Int) : Good E (setH S 1 v) X t where
  nb := h.nb
  free := by
    obtain ⟨n, h1, h2, h3⟩ := h.free
    exact ⟨n, (setH_w _ _ _ _ (by omega)).trans h1, h2, h3.frame (setH_w _ _ _ _ (by omega)) (fun q _ => ⟨rfl, rfl⟩)⟩
  part := fun c hc => by
    obtain ⟨n, h3⟩ := h.part c hc
    exact ⟨n, h3.frame (setH_w _ _ _ _ (by omega)) (fun q _ => ⟨rfl, rfl⟩)⟩
  cls := fun c hc => by
    obtain ⟨l, h1, h2, h3, h4⟩ := h.cls c hc
    exact ⟨l, h1, h2, (setH_w _ _ _ _ (by omega)).trans h3, h4⟩
  hi := fun c h1 h2 => (setH_w _ _ _ _ (by omega)).trans (h.hi c h1 h2)
  kind := h.kind
  bf := h.bf
  pg := fun q c hc hq => by
    obtain ⟨us, hd, rl, h1, h2⟩ := h.pg q c hc hq
    exact ⟨us, hd, rl, h1.frame (fun _ _ => rfl) (fun _ => rfl), h2⟩
  xs := h.xs
  nd := h.nd

section
variable {E : Nat → Prop} {S : St} {X : List (Nat × Nat × Nat)} {t : Nat}
theorem Good.lt (h : Good E S X t) (ht : t ≤ 1000) {q : Nat} (hq : Live S q) : q < 1000000 := by
  have h1 := hq.1
  have h2 := h.nb
  omega
theorem Good.lkF (h : Good E S X t) (ht : t ≤ 1000) : Lk S (S.w 179) := by
  obtain ⟨n, _, _, h3⟩ := h.free
  rcases h3.head with ⟨h0, _⟩ | ⟨q, hq, h1⟩
  · exact .inl h0
  · exact .inr ⟨q, h1, hq.1, h.lt ht hq.1⟩
theorem lst_lk (h : Good E S X t) (ht : t ≤ 1000) {i n : Nat} {M : Nat → Prop} (hl : Lst S i M n) (hM : ∀ q, M q → Live S q) {p : Nat} (hp : M p) : Lk S (getP S p 4) ∧ Lk S (getP S p 5) := by
  obtain ⟨h1, h2⟩ := hl.nbr hp
  refine ⟨?_, ?_⟩
  · rcases h1 with h1 | ⟨q, hq, _, h1⟩
    · exact .inl h1
    · exact .inr ⟨q, h1, hM q hq, h.lt ht (hM q hq)⟩
  · rcases h2 with h2 | ⟨q, hq, _, h2⟩
    · exact .inl h2
    · exact .inr ⟨q, h2, hM q hq, h.lt ht (hM q hq)⟩
/-- What unlink reads as the page's next is its next. -/
theorem unlink1_nx {S : St} {i n : Nat} {M : Nat → Prop} (hl : Lst S i M n) {p : Nat} (hp : M p) : getP (unlink1 S i p) p 5 = getP S p 5 := by
  unfold unlink1
  split
  · rfl
  · rename_i hne
    rcases (hl.nbr hp).1 with h | ⟨q, _, hq, h⟩
    · exact absurd h hne
    · rw [getP_setP _ _ _ _ _ _ (by omega) (by omega), if_neg (by rw [h]; omega)]
end

end Go.Proofs.Ybulkcqic
