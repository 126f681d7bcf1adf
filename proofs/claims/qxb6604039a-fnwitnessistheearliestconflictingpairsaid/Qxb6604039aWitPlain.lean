/-
  THE PLAIN LAW of the witness: the best conflicting pair, by what has been seen. No Go in sight.
-/
import Derived.Test.Qxb6604039aWitDom2
namespace Go.Proofs.Qxb6604039a

/-- the history: its rows, the uses, the two nodes -/
structure Hist where
  X : Nat → Nat → Stp
  U : Nat → Us
  x : Int
  y : Int
  lo : Nat
  hi : Nat

namespace Hist
variable (H : Hist)
def row (u : Nat) : Nat → Stp := H.X (H.U u).item.toNat
/-- steps i and j of use u conflict -/
def Cf (u i j : Nat) : Prop := (H.U u).first ≤ i ∧ i < j ∧ (j : Int) ≤ (H.U u).hi ∧ (H.row u i).node = H.x ∧ (H.row u j).node = H.y ∧ H.y ≠ H.x ∧ ((H.row u i).sh && (H.row u j).sh) = false
def pp (c : Nat × Nat × Nat) : Int × Int := ((H.row c.1 c.2.1).pos, (H.row c.1 c.2.2).pos)
end Hist

def LexLt (p q : Int × Int) : Prop := p.1 < q.1 ∨ (p.1 = q.1 ∧ p.2 < q.2)
def LexLe (p q : Int × Int) : Prop := p.1 < q.1 ∨ (p.1 = q.1 ∧ p.2 ≤ q.2)
theorem LexLe.trans {p q r : Int × Int} (h : LexLe p q) (k : LexLe q r) : LexLe p r := by unfold LexLe at *; omega
theorem LexLe.refl (p : Int × Int) : LexLe p p := by unfold LexLe; omega
theorem LexLt.le {p q : Int × Int} (h : LexLt p q) : LexLe p q := by unfold LexLt at h; unfold LexLe; omega
theorem LexLe.of_not {p q : Int × Int} (h : ¬ LexLt p q) : LexLe q p := by unfold LexLt at h; unfold LexLe; omega
theorem LexLe.antisymm {p q : Int × Int} (h : LexLe p q) (k : LexLe q p) : p = q := by
  unfold LexLe at *
  obtain ⟨p1, p2⟩ := p
  obtain ⟨q1, q2⟩ := q
  simp only at *
  have h1 : p1 = q1 := by omega
  have h2 : p2 = q2 := by omega
  rw [h1, h2]

/-- o is the best pair among what was seen -/
def BestOf (H : Hist) (Seen : Nat → Nat → Nat → Prop) (o : Option (Nat × Nat × Nat)) : Prop :=
  (o = none → ∀ u i j, Seen u i j → ¬ H.Cf u i j) ∧ ∀ c, o = some c → (H.lo ≤ c.1 ∧ c.1 < H.hi) ∧ H.Cf c.1 c.2.1 c.2.2 ∧ ∀ u i j, Seen u i j → H.Cf u i j → LexLe (H.pp c) (H.pp (u, i, j))

namespace BestOf
variable {H : Hist} {Seen Seen' N : Nat → Nat → Nat → Prop} {o : Option (Nat × Nat × Nat)}

theorem mono (h : BestOf H Seen o) (hs : ∀ u i j, Seen' u i j → H.Cf u i j → Seen u i j) : BestOf H Seen' o :=
  ⟨fun e u i j s c => h.1 e u i j (hs u i j s c) c, fun c e => ⟨(h.2 c e).1, (h.2 c e).2.1, fun u i j s k => (h.2 c e).2.2 u i j (hs u i j s k) k⟩⟩

theorem take (h : BestOf H Seen o) (hs : ∀ u i j, Seen' u i j → H.Cf u i j → Seen u i j ∨ N u i j) (c : Nat × Nat × Nat) (hr : H.lo ≤ c.1 ∧ c.1 < H.hi) (hc : H.Cf c.1 c.2.1 c.2.2)
    (hm : ∀ u i j, N u i j → H.Cf u i j → LexLe (H.pp c) (H.pp (u, i, j))) (ht : ∀ b, o = some b → LexLt (H.pp c) (H.pp b)) : BestOf H Seen' (some c) := by
  refine ⟨fun e => (by cases e), fun c' e => ?_⟩
  cases e
  refine ⟨hr, hc, fun u i j s k => ?_⟩
  rcases hs u i j s k with s | s
  · cases ho : o with
    | none => exact absurd k (h.1 ho u i j s)
    | some b => exact (ht b ho).le.trans ((h.2 b ho).2.2 u i j s k)
  · exact hm u i j s k

theorem leave (h : BestOf H Seen o) (hs : ∀ u i j, Seen' u i j → H.Cf u i j → Seen u i j ∨ N u i j) (c : Nat × Nat × Nat)
    (hm : ∀ u i j, N u i j → H.Cf u i j → LexLe (H.pp c) (H.pp (u, i, j))) (b : Nat × Nat × Nat) (hb : o = some b) (ht : ¬ LexLt (H.pp c) (H.pp b)) : BestOf H Seen' o := by
  subst hb
  refine ⟨fun e => (by cases e), fun c' e => ?_⟩
  cases e
  refine ⟨(h.2 b rfl).1, (h.2 b rfl).2.1, fun u i j s k => ?_⟩
  rcases hs u i j s k with s | s
  · exact (h.2 b rfl).2.2 u i j s k
  · exact (LexLe.of_not ht).trans (hm u i j s k)

theorem start (hs : ∀ u i j, ¬ Seen u i j) : BestOf H Seen none := ⟨fun _ u i j s => absurd s (hs u i j), fun c e => by cases e⟩
end BestOf

/-- what lies before use u -/
def SeenU (lo u : Nat) (u' _i _j : Nat) : Prop := lo ≤ u' ∧ u' < u
/-- .. and in use u before step j -/
def SeenJ (lo u : Nat) (j : Int) (u' _i j' : Nat) : Prop := lo ≤ u' ∧ (u' < u ∨ (u' = u ∧ (j' : Int) < j))
/-- .. and at step j the pairs before i -/
def SeenI (lo u : Nat) (j i : Int) (u' i' j' : Nat) : Prop := lo ≤ u' ∧ (u' < u ∨ (u' = u ∧ ((j' : Int) < j ∨ ((j' : Int) = j ∧ (i' : Int) < i))))

/-- TWO BEST PAIRS ARE ONE -/
theorem BestOf.same {H : Hist} {n : Nat} {L : Nat → Nat} {o o' : Option (Nat × Nat × Nat)} (h : BestOf H (SeenU H.lo H.hi) o) (h' : BestOf H (SeenU H.lo H.hi) o') (inj : PosInj n L H.X)
    (hit : ∀ u, H.lo ≤ u → u < H.hi → (H.U u).item.toNat < n) (hlen : ∀ u, H.lo ≤ u → u < H.hi → (H.U u).first ≤ (H.U u).hi → (H.U u).hi < L (H.U u).item.toNat) :
    (o = none ∧ o' = none) ∨ ∃ c c', o = some c ∧ o' = some c' ∧ (H.U c.1).item.toNat = (H.U c'.1).item.toNat ∧ c.2 = c'.2 := by
  cases ho : o with
  | none =>
    cases ho' : o' with
    | none => exact .inl ⟨rfl, rfl⟩
    | some c' => exact absurd (h'.2 c' ho').2.1 (h.1 ho _ _ _ (h'.2 c' ho').1)
  | some c =>
    cases ho' : o' with
    | none => exact absurd (h.2 c ho).2.1 (h'.1 ho' _ _ _ (h.2 c ho).1)
    | some c' =>
      refine .inr ⟨c, c', rfl, rfl, ?_⟩
      obtain ⟨r1, f1, m1⟩ := h.2 c ho
      obtain ⟨r2, f2, m2⟩ := h'.2 c' ho'
      have e := LexLe.antisymm (m1 _ _ _ r2 f2) (m2 _ _ _ r1 f1)
      obtain ⟨u, i, j⟩ := c
      obtain ⟨u', i', j'⟩ := c'
      simp only [Hist.pp, Prod.mk.injEq] at e
      simp only at r1 r2 f1 f2
      obtain ⟨a1, a2, a3, _⟩ := f1
      obtain ⟨b1, b2, b3, _⟩ := f2
      have l1 := hlen u r1.1 r1.2 (by omega)
      have l2 := hlen u' r2.1 r2.2 (by omega)
      have q1 := inj _ _ _ _ (hit u r1.1 r1.2) (hit u' r2.1 r2.2) (show i < L _ by omega) (show i' < L _ by omega) e.1
      have q2 := inj _ _ _ _ (hit u r1.1 r1.2) (hit u' r2.1 r2.2) (show j < L _ by omega) (show j' < L _ by omega) e.2
      exact ⟨q1.1, by rw [q1.2, q2.2]⟩

/-- the least step of x in a row from f to t -/
def LeastIs (S : Nat → Stp) (x : Int) (f t : Int) (P : Nat → Prop) (v : Int) : Prop :=
  (v = -1 ∧ ∀ i : Nat, f ≤ i → (i : Int) < t → (S i).node = x → ¬ P i) ∨ ∃ i0 : Nat, v = i0 ∧ f ≤ i0 ∧ (i0 : Int) < t ∧ (S i0).node = x ∧ P i0 ∧ ∀ i : Nat, f ≤ i → (i : Int) < t → (S i).node = x → P i → (S i0).pos ≤ (S i).pos

theorem LeastIs.skip {S : Nat → Stp} {x f : Int} {t : Nat} {P : Nat → Prop} {v : Int} (h : LeastIs S x f t P v) (hn : (S t).node = x → ¬ P t) : LeastIs S x f (t + 1 : Nat) P v := by
  rcases h with ⟨h1, h2⟩ | ⟨i0, h1, h2, h3, h4, h5, h6⟩
  · refine .inl ⟨h1, fun i hf hi hx => ?_⟩
    by_cases e : i = t
    · subst e; exact hn hx
    · exact h2 i hf (by omega) hx
  · refine .inr ⟨i0, h1, h2, by omega, h4, h5, fun i hf hi hx hp => ?_⟩
    by_cases e : i = t
    · subst e; exact absurd hp (hn hx)
    · exact h6 i hf (by omega) hx hp

theorem LeastIs.take {S : Nat → Stp} {x f : Int} {t : Nat} {P : Nat → Prop} {v : Int} (h : LeastIs S x f t P v) (hf : f ≤ t) (hx : (S t).node = x) (hp : P t) (hlt : ∀ i0 : Nat, v = i0 → f ≤ i0 → (i0 : Int) < t → (S i0).node = x → P i0 → (S t).pos ≤ (S i0).pos) : LeastIs S x f (t + 1 : Nat) P t := by
  refine .inr ⟨t, rfl, hf, by omega, hx, hp, fun i hf' hi hx' hp' => ?_⟩
  by_cases e : i = t
  · subst e; exact Int.le_refl _
  · rcases h with ⟨h1, h2⟩ | ⟨i0, h1, h2, h3, h4, h5, h6⟩
    · exact absurd hp' (h2 i hf' (by omega) hx')
    · exact Int.le_trans (hlt i0 h1 h2 h3 h4 h5) (h6 i hf' (by omega) hx' hp')

theorem LeastIs.keep {S : Nat → Stp} {x f : Int} {t : Nat} {P : Nat → Prop} {v : Int} (h : LeastIs S x f t P v) (hv : 0 ≤ v) (hge : ∀ i0 : Nat, v = i0 → f ≤ i0 → (i0 : Int) < t → (S i0).node = x → P i0 → (S i0).pos ≤ (S t).pos) : LeastIs S x f (t + 1 : Nat) P v := by
  rcases h with ⟨h1, h2⟩ | ⟨i0, h1, h2, h3, h4, h5, h6⟩
  · omega
  · refine .inr ⟨i0, h1, h2, by omega, h4, h5, fun i hf hi hx hp => ?_⟩
    by_cases e : i = t
    · subst e; exact hge i0 h1 h2 h3 h4 h5
    · exact h6 i hf (by omega) hx hp
end Go.Proofs.Qxb6604039a
