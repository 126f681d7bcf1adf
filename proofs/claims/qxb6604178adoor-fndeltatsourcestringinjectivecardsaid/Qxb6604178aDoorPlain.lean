/-
  THE PLAIN LAW: two different numbers never print alike. No Go in sight.
-/
import Derived.Lib.ItoaNum
import Derived.Lib.ItoaLen
namespace Go.Proofs.Qxb6604178aDoor
open Go.Lib

/-- what a list of digits is worth -/
def worth : List UInt8 → Nat → Nat
  | [], a => a
  | c :: r, a => worth r (a * 10 + (c.toNat - 48))
theorem worth_append (l r : List UInt8) : ∀ a, worth (l ++ r) a = worth r (worth l a) := by
  induction l with
  | nil => intro a; rfl
  | cons c l ih => intro a; exact ih _

theorem digit_worth {d : Nat} (h : d < 10) : (UInt8.ofNat (48 + d)).toNat - 48 = d := by
  rw [UInt8.toNat_ofNat']; omega

theorem worth_digits : ∀ (k u : Nat), u < 10 ^ k → worth (decDigits u) 0 = u
  | 0, u, h => by
    have : u = 0 := by simpa using h
    subst this
    rw [decDigits, dif_pos (by decide)]; rfl
  | k + 1, u, h => by
    rw [decDigits]
    by_cases h10 : u < 10
    · rw [dif_pos h10]; simp only [worth]; rw [digit_worth h10]; omega
    · rw [dif_neg h10, worth_append, worth_digits k (u / 10) (by rw [Nat.pow_succ] at h; omega)]
      simp only [worth]
      rw [digit_worth (by omega)]; omega

theorem digits_inj {u v : Nat} (h : decDigits u = decDigits v) : u = v := by
  have h1 := worth_digits (nDigits u) u (lt_pow_nDigits u)
  have h2 := worth_digits (nDigits v) v (lt_pow_nDigits v)
  rw [h] at h1; omega

theorem digits_head (u : Nat) : (decDigits u).head? ≠ some 45 := by
  have key : ∀ (k u : Nat), u < 10 ^ k → ∃ c r, decDigits u = c :: r ∧ 48 ≤ c.toNat := by
    intro k
    induction k with
    | zero => intro u h; have : u = 0 := by simpa using h
              subst this; rw [decDigits, dif_pos (by decide)]; exact ⟨_, _, rfl, by decide⟩
    | succ k ih =>
      intro u h
      rw [decDigits]
      by_cases h10 : u < 10
      · rw [dif_pos h10]; exact ⟨_, _, rfl, by rw [UInt8.toNat_ofNat']; omega⟩
      · rw [dif_neg h10]
        obtain ⟨c, r, e, hc⟩ := ih (u / 10) (by rw [Nat.pow_succ] at h; omega)
        exact ⟨c, r ++ _, by rw [e]; rfl, hc⟩
  obtain ⟨c, r, e, hc⟩ := key (nDigits u) u (lt_pow_nDigits u)
  rw [e]
  simp only [List.head?_cons, ne_eq, Option.some.injEq]
  rintro rfl
  exact absurd hc (by decide)

theorem itoa_inj {n m : Int} (h : itoa n = itoa m) : n = m := by
  unfold itoa at h
  by_cases hn : n < 0
  · by_cases hm : m < 0
    · rw [if_pos hn, if_pos hm] at h
      simp only [List.cons.injEq, true_and] at h
      have := digits_inj h; omega
    · rw [if_pos hn, if_neg hm] at h
      exact absurd (by rw [← h]; rfl) (digits_head m.toNat)
  · by_cases hm : m < 0
    · rw [if_neg hn, if_pos hm] at h
      exact absurd (by rw [h]; rfl) (digits_head n.toNat)
    · rw [if_neg hn, if_neg hm] at h
      have := digits_inj h; omega

/-- the text of a source -/
def txt (n : Int) : List UInt8 :=
  if n = 0 then [111, 98, 115, 101, 114, 118, 101, 100]
  else if n = 1 then [116, 97, 98, 108, 101]
  else if n = 2 then [112, 97, 114, 97, 98, 111, 108, 97]
  else if n = 3 then [101, 120, 116, 114, 97, 112, 111, 108, 97, 116, 101, 100]
  else [68, 101, 108, 116, 97, 84, 83, 111, 117, 114, 99, 101, 40] ++ itoa n ++ [41]

theorem txt_inj {n m : Int} (h : txt n = txt m) : n = m := by
  unfold txt at h
  by_cases a0 : n = 0 <;> by_cases a1 : n = 1 <;> by_cases a2 : n = 2 <;> by_cases a3 : n = 3 <;>
  by_cases b0 : m = 0 <;> by_cases b1 : m = 1 <;> by_cases b2 : m = 2 <;> by_cases b3 : m = 3 <;>
  first
    | omega
    | (simp [a0, a1, a2, a3, b0, b1, b2, b3] at h; exact itoa_inj h)
    | (simp [a0, a1, a2, a3, b0, b1, b2, b3] at h)

end Go.Proofs.Qxb6604178aDoor
