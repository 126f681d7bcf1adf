/-
  The plain law of the witness: the steps of the walk.
-/
import Derived.Test.Qxb6604039aWitPlain
namespace Go.Proofs.Qxb6604039a

theorem LeastIs.congr {S : Nat → Stp} {x f t : Int} {P Q : Nat → Prop} {v : Int} (h : LeastIs S x f t P v) (e : ∀ i, P i ↔ Q i) : LeastIs S x f t Q v := by
  rcases h with ⟨h1, h2⟩ | ⟨i0, h1, h2, h3, h4, h5, h6⟩
  · exact .inl ⟨h1, fun i hf hi hx hq => h2 i hf hi hx ((e i).2 hq)⟩
  · exact .inr ⟨i0, h1, h2, h3, h4, (e i0).1 h5, fun i hf hi hx hq => h6 i hf hi hx ((e i).2 hq)⟩

theorem LeastIs.start {S : Nat → Stp} {x f : Int} {P : Nat → Prop} : LeastIs S x f f P (-1) := .inl ⟨rfl, fun i h1 h2 => by omega⟩

/-- the steps of x that step t conflicts with, the least by position -/
def Ear (H : Hist) (u t : Nat) (v : Int) : Prop := LeastIs (H.row u) H.x (H.U u).first t (fun i => ((H.row u i).sh && (H.row u t).sh) = false) v

theorem Ear.of_all {H : Hist} {u t : Nat} {v : Int} (h : LeastIs (H.row u) H.x (H.U u).first t (fun _ => True) v) (hs : (H.row u t).sh = false) : Ear H u t v := h.congr (fun i => by simp [hs])
theorem Ear.of_writes {H : Hist} {u t : Nat} {v : Int} (h : LeastIs (H.row u) H.x (H.U u).first t (fun i => (H.row u i).sh = false) v) (hs : (H.row u t).sh = true) : Ear H u t v := h.congr (fun i => by simp [hs])

variable {H : Hist} {lo u t : Nat} {o : Option (Nat × Nat × Nat)}

theorem BestOf.skipJ (h : BestOf H (SeenJ lo u t) o) (hn : (H.row u t).node ≠ H.y ∨ H.y = H.x) : BestOf H (SeenJ lo u ((t : Int) + 1)) o := by
  refine h.mono fun u' i j s c => ⟨s.1, ?_⟩
  rcases s.2 with s | ⟨rfl, s⟩
  · exact .inl s
  · refine .inr ⟨rfl, ?_⟩
    by_cases e : j = t
    · subst e
      rcases hn with hn | hn
      · exact absurd c.2.2.2.2.1 hn
      · exact absurd hn c.2.2.2.2.2.1
    · omega

theorem BestOf.noneJ (h : BestOf H (SeenJ lo u t) o) (he : Ear H u t (-1)) : BestOf H (SeenJ lo u ((t : Int) + 1)) o := by
  refine h.mono fun u' i j s c => ⟨s.1, ?_⟩
  rcases s.2 with s | ⟨rfl, s⟩
  · exact .inl s
  · refine .inr ⟨rfl, ?_⟩
    by_cases e : j = t
    · subst e
      rcases he with ⟨_, h2⟩ | ⟨i0, h1, _⟩
      · exact absurd c.2.2.2.2.2.2 (h2 i c.1 (by have := c.2.1; omega) c.2.2.2.1)
      · omega
    · omega

def AtJ (u t : Nat) (u' _i j : Nat) : Prop := u' = u ∧ j = t

theorem seen_split (u' i j : Nat) (s : SeenJ lo u ((t : Int) + 1) u' i j) : SeenJ lo u t u' i j ∨ AtJ u t u' i j := by
  rcases s.2 with q | ⟨rfl, q⟩
  · exact .inl ⟨s.1, .inl q⟩
  · by_cases e : j = t
    · exact .inr ⟨rfl, e⟩
    · exact .inl ⟨s.1, .inr ⟨rfl, by omega⟩⟩

theorem ear_min {i0 : Nat} (he : Ear H u t i0) : ∀ u' i j, AtJ u t u' i j → H.Cf u' i j → LexLe (H.pp (u, i0, t)) (H.pp (u', i, j)) := by
  rintro u' i j ⟨rfl, rfl⟩ c
  rcases he with ⟨h1, _⟩ | ⟨i1, h1, h2, h3, h4, h5, h6⟩
  · omega
  · obtain rfl : i0 = i1 := by omega
    have := h6 i c.1 (by have := c.2.1; omega) c.2.2.2.1 c.2.2.2.2.2.2
    unfold LexLe Hist.pp
    simp only
    omega

theorem ear_cf {i0 : Nat} (he : Ear H u t i0) (hy : (H.row u t).node = H.y) (hyx : H.y ≠ H.x) (ht : (t : Int) ≤ (H.U u).hi) : H.Cf u i0 t := by
  rcases he with ⟨h1, _⟩ | ⟨i1, h1, h2, h3, h4, h5, h6⟩
  · omega
  · obtain rfl : i0 = i1 := by omega
    exact ⟨h2, by omega, ht, h4, hy, hyx, h5⟩

theorem BestOf.takeJ (h : BestOf H (SeenJ lo u t) o) {i0 : Nat} (he : Ear H u t i0) (hy : (H.row u t).node = H.y) (hyx : H.y ≠ H.x) (ht : (t : Int) ≤ (H.U u).hi) (hr : H.lo ≤ u ∧ u < H.hi) (hl : ∀ b, o = some b → LexLt (H.pp (u, i0, t)) (H.pp b)) : BestOf H (SeenJ lo u ((t : Int) + 1)) (some (u, i0, t)) :=
  h.take (fun u' i j s _ => seen_split u' i j s) (u, i0, t) hr (ear_cf he hy hyx ht) (ear_min he) hl

theorem BestOf.leaveJ (h : BestOf H (SeenJ lo u t) o) {i0 : Nat} (he : Ear H u t i0) (b : Nat × Nat × Nat) (hb : o = some b) (hl : ¬ LexLt (H.pp (u, i0, t)) (H.pp b)) : BestOf H (SeenJ lo u ((t : Int) + 1)) o :=
  h.leave (fun u' i j s _ => seen_split u' i j s) (u, i0, t) (ear_min he) b hb hl

theorem BestOf.enter (h : BestOf H (SeenU lo u) o) : BestOf H (SeenJ lo u (H.U u).first) o :=
  h.mono fun u' i j s c => ⟨s.1, by
    rcases s.2 with q | ⟨rfl, q⟩
    · exact q
    · have := c.1; have := c.2.1; omega⟩

theorem BestOf.done {t : Int} (h : BestOf H (SeenJ lo u t) o) (ht : (H.U u).hi < t) : BestOf H (SeenU lo (u + 1)) o :=
  h.mono fun u' i j s c => ⟨s.1, by
    have s2 := s.2
    by_cases e : u' = u
    · subst e; exact .inr ⟨rfl, by have := c.2.2.1; omega⟩
    · exact .inl (by omega)⟩
end Go.Proofs.Qxb6604039a
