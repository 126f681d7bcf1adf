/-
  The plain law of the witness: the steps of the brute force.
-/
import Derived.Test.Qxb6604039aWitPlain2
namespace Go.Proofs.Qxb6604039a
variable {H : Hist} {lo u t : Nat} {o : Option (Nat × Nat × Nat)}

theorem BestOf.enterI (h : BestOf H (SeenJ lo u t) o) : BestOf H (SeenI lo u t (H.U u).first) o :=
  h.mono fun u' i j s c => ⟨s.1, by
    rcases s.2 with q | ⟨rfl, q⟩
    · exact .inl q
    · have := c.1; exact .inr ⟨rfl, by omega⟩⟩

theorem BestOf.doneI {s : Int} (h : BestOf H (SeenI lo u t s) o) (hs : (t : Int) ≤ s) : BestOf H (SeenJ lo u ((t : Int) + 1)) o :=
  h.mono fun u' i j q c => ⟨q.1, by
    rcases q.2 with q | ⟨rfl, q⟩
    · exact .inl q
    · have := c.2.1; exact .inr ⟨rfl, by omega⟩⟩

theorem BestOf.skipI {s : Nat} (h : BestOf H (SeenI lo u t s) o) (hn : ¬ H.Cf u s t) : BestOf H (SeenI lo u t ((s : Int) + 1)) o :=
  h.mono fun u' i j q c => ⟨q.1, by
    rcases q.2 with q | ⟨rfl, q⟩
    · exact .inl q
    · refine .inr ⟨rfl, ?_⟩
      by_cases e : j = t ∧ i = s
      · obtain ⟨rfl, rfl⟩ := e; exact absurd c hn
      · omega⟩

def AtI (u s t : Nat) (u' i j : Nat) : Prop := u' = u ∧ i = s ∧ j = t
theorem seen_splitI {s : Nat} (u' i j : Nat) (q : SeenI lo u t ((s : Int) + 1) u' i j) : SeenI lo u t s u' i j ∨ AtI u s t u' i j := by
  by_cases e : u' = u ∧ i = s ∧ j = t
  · exact .inr e
  · refine .inl ⟨q.1, ?_⟩
    have := q.2
    omega

theorem BestOf.takeI {s : Nat} (h : BestOf H (SeenI lo u t s) o) (hc : H.Cf u s t) (hr : H.lo ≤ u ∧ u < H.hi) (hl : ∀ b, o = some b → LexLt (H.pp (u, s, t)) (H.pp b)) : BestOf H (SeenI lo u t ((s : Int) + 1)) (some (u, s, t)) :=
  h.take (fun u' i j q _ => seen_splitI u' i j q) (u, s, t) hr hc (by rintro u' i j ⟨rfl, rfl, rfl⟩ _; exact LexLe.refl _) hl

theorem BestOf.leaveI {s : Nat} (h : BestOf H (SeenI lo u t s) o) (b : Nat × Nat × Nat) (hb : o = some b) (hl : ¬ LexLt (H.pp (u, s, t)) (H.pp b)) : BestOf H (SeenI lo u t ((s : Int) + 1)) o :=
  h.leave (fun u' i j q _ => seen_splitI u' i j q) (u, s, t) (by rintro u' i j ⟨rfl, rfl, rfl⟩ _; exact LexLe.refl _) b hb hl

/-- what the brute force holds -/
def fK (H : Hist) : Option (Nat × Nat × Nat) → Int
  | none => -1
  | some c => (H.U c.1).item
def fI : Option (Nat × Nat × Nat) → Int
  | none => -1
  | some c => c.2.1
def fJ : Option (Nat × Nat × Nat) → Int
  | none => -1
  | some c => c.2.2
def fX (H : Hist) : Option (Nat × Nat × Nat) → Int
  | none => 0
  | some c => (H.pp c).1
def fY (H : Hist) : Option (Nat × Nat × Nat) → Int
  | none => 0
  | some c => (H.pp c).2
end Go.Proofs.Qxb6604039a
