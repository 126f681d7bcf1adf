/-
  reservedByteMatches, sameWordAnyCase, sameTailAnyCase.
-/
import Derived.Test.Qxb6604040aDoorPrem
namespace Go.Proofs.Qxb6604040aDoor
open Go.RowKit

theorem up_nat : ∀ r : Nat, r < 91 → 65 ≤ r → ∀ b : Nat, b < 256 → ((r ||| 32 = b ||| 32) ↔ (b = r ∨ b = r + 32)) := by decide +kernel
theorem low_nat : ∀ r : Nat, r < 123 → 97 ≤ r → ∀ b : Nat, b < 256 → ((r ||| 32 = b ||| 32) ↔ (b = r ∨ b + 32 = r)) := by decide +kernel
theorem us_nat : ∀ b : Nat, b < 256 → ((95 ||| 32 = b ||| 32) ↔ (b = 95 ∨ b = 127)) := by decide +kernel

theorem lo8_cast {r b : Int} (r0 : 0 ≤ r) (r1 : r < 256) (b0 : 0 ≤ b) (b1 : b < 256) : lo8 r = lo8 b ↔ r.toNat ||| 32 = b.toNat ||| 32 := by
  rw [lo8_nat r r0 r1, lo8_nat b b0 b1]
  omega
theorem lo8_up {r b : Int} (r0 : 65 ≤ r) (r1 : r ≤ 90) (b0 : 0 ≤ b) (b1 : b < 256) : lo8 r = lo8 b ↔ (b = r ∨ b = r + 32) := by
  rw [lo8_cast (by omega) (by omega) b0 b1, up_nat r.toNat (by omega) (by omega) b.toNat (by omega)]
  omega
theorem lo8_low {r b : Int} (r0 : 97 ≤ r) (r1 : r ≤ 122) (b0 : 0 ≤ b) (b1 : b < 256) : lo8 r = lo8 b ↔ (b = r ∨ b = r - 32) := by
  rw [lo8_cast (by omega) (by omega) b0 b1, low_nat r.toNat (by omega) (by omega) b.toNat (by omega)]
  omega
theorem lo8_us {b : Int} (b0 : 0 ≤ b) (b1 : b < 256) : lo8 95 = lo8 b ↔ (b = 95 ∨ b = 127) := by
  rw [lo8_cast (by omega) (by omega) b0 b1]
  have := us_nat b.toNat (by omega)
  rw [show (95 : Int).toNat = 95 from rfl, this]
  omega

theorem isWdI_cases {r : Int} (h : isWdI r = true) : r = 95 ∨ (65 ≤ r ∧ r ≤ 90) ∨ (97 ≤ r ∧ r ≤ 122) := by
  simp [isWdI] at h
  omega

set_option maxRecDepth 100000 in
set_option maxHeartbeats 1000000 in
theorem res26 (r b : Int) (hr : isWdI r = true) (b0 : 0 ≤ b) (b1 : b < 256) (w : World) : Calls Tryd.prog 26 #[.int .u8 r, .int .u8 b] w fun e w' => e = .returned (.bool (decide (lo8 r = lo8 b))) ∧ w' = w := by
  rcases isWdI_cases hr with rfl | ⟨r0, r1⟩ | ⟨r0, r1⟩
  · clear hr
    have hl := lo8_us b0 b1
    by_cases h1 : b = 95
    · subst h1
      clear hl
      go_enter Tryd.func26, Tryd.ntmps26
      go_wp2
      go_ret
      exact ⟨by simp, rfl⟩
    · have d1 : (b == 95) = false := by simp [h1]
      by_cases h2 : b = 127
      · subst h2
        have e : lo8 95 = lo8 127 := hl.2 (.inr rfl)
        clear hl
        go_enter Tryd.func26, Tryd.ntmps26
        go_wp2
        go_ret
        exact ⟨by rw [e]; simp, rfl⟩
      · have d2 : (b == 127) = false := by simp [h2]
        have HE : Hid (¬ lo8 95 = lo8 b) := fun e => by rcases hl.1 e with q | q; exact h1 q; exact h2 q
        clear hl
        go_enter Tryd.func26, Tryd.ntmps26
        go_wp2
        go_ret
        exact ⟨by simp [HE.out], rfl⟩
  · clear hr
    have hl := lo8_up r0 r1 b0 b1
    have d0 : (r == 95) = false := by simp; omega
    by_cases h1 : b = r
    · subst h1
      clear hl
      go_enter Tryd.func26, Tryd.ntmps26
      go_wp2
      go_ret
      exact ⟨by simp, rfl⟩
    · have d1 : (b == r) = false := by simp [h1]
      by_cases h2 : b = r + 32
      · have e : Hid (lo8 r = lo8 b) := hl.2 (.inr h2)
        have d2 : (b == r + 32) = true := by simp [h2]
        clear hl h1 h2
        go_enter Tryd.func26, Tryd.ntmps26
        go_wp2
        go_ret
        exact ⟨by simp [e.out], rfl⟩
      · have d2 : (b == r + 32) = false := by simp [h2]
        have HE : Hid (¬ lo8 r = lo8 b) := fun e => by rcases hl.1 e with q | q; exact h1 q; exact h2 q
        clear hl
        go_enter Tryd.func26, Tryd.ntmps26
        go_wp2
        go_ret
        exact ⟨by simp [HE.out], rfl⟩
  · clear hr
    have hl := lo8_low r0 r1 b0 b1
    have d0 : (r == 95) = false := by simp; omega
    have d00 : decide (r ≤ 90) = false := by simp; omega
    have d01 : 65 ≤ r := by omega
    by_cases h1 : b = r
    · subst h1
      clear hl
      go_enter Tryd.func26, Tryd.ntmps26
      go_wp2
      go_ret
      exact ⟨by simp, rfl⟩
    · have d1 : (b == r) = false := by simp [h1]
      by_cases h2 : b = r - 32
      · have e : Hid (lo8 r = lo8 b) := hl.2 (.inr h2)
        have d2 : (b == r - 32) = true := by simp [h2]
        clear hl h1 h2
        go_enter Tryd.func26, Tryd.ntmps26
        go_wp2
        go_ret
        exact ⟨by simp [e.out], rfl⟩
      · have d2 : (b == r - 32) = false := by simp [h2]
        have HE : Hid (¬ lo8 r = lo8 b) := fun e => by rcases hl.1 e with q | q; exact h1 q; exact h2 q
        clear hl
        go_enter Tryd.func26, Tryd.ntmps26
        go_wp2
        go_ret
        exact ⟨by simp [HE.out], rfl⟩

/-- the bytes from f on are equal but for the 0x20 bit, the lengths are equal -/
def SameFrom (f : Nat) (r t : ByteArray) : Prop := r.size = t.size ∧ ∀ i, f ≤ i → i < t.size → lo8 (by8 r i) = lo8 (by8 t i)

set_option maxRecDepth 100000 in
set_option maxHeartbeats 1000000 in
theorem same11 (r t : ByteArray) (hr : WordOK r) (hb : r.size ≤ 1048576) (_hb2 : t.size ≤ 1048576) (w : World) : Calls Tryd.prog 11 #[.string r, .string t] w fun e w' => Answers (fun b => b = true ↔ SameFrom 0 r t) e ∧ Kept Nowhere w w' := by
  have HW : Hid (WordOK r) := hr
  clear hr
  by_cases hs : r.size = t.size
  · have hs' : ((r.size : Int) != (t.size : Int)) = false := by simp [hs]
    have HSz : Hid (r.size = t.size) := hs
    clear hs
    go_enter Tryd.func11, Tryd.ntmps11
    go_wp2
    go_loopg [5] (t.size - 0) (fun gk v5 wr => ∃ j : Nat, 0 ≤ j ∧ t.size - j = gk ∧ v5 = .int .i64 j ∧ j ≤ 1048576 ∧ Hid (Kept Nowhere w wr ∧ ∀ i, 0 ≤ i → i < j → i < t.size → lo8 (by8 r i) = lo8 (by8 t i)))
    case atStart => exact ⟨0, Nat.le_refl _, rfl, rfl, by omega, Kept.refl _ _, fun i h0 h1 => by omega⟩
    case round =>
      obtain ⟨j, hfj, hgk, rfl, hjb, HR⟩ := hrel
      by_cases hj : j < t.size
      · have hjr : j < r.size := by have := HSz.out; omega
        have hjI : (j : Int) < (t.size : Int) := by omega
        have hjJ : (j : Int) < (r.size : Int) := by omega
        have hx := by8_eq hj
        have hy := by8_eq hjr
        have HC0 : Hid (∀ W, Calls Tryd.prog 26 #[.int .u8 (by8 r j), .int .u8 (by8 t j)] W fun e w' => e = .returned (.bool (decide (lo8 (by8 r j) = lo8 (by8 t j)))) ∧ w' = W) := fun W => res26 (by8 r j) (by8 t j) (HW.out j hjr) (by8_lo _ _) (by8_hi _ _) W
        obtain ⟨q, rfl⟩ : ∃ q, gk = q + 1 := ⟨gk - 1, by omega⟩
        by_cases he : lo8 (by8 r j) = lo8 (by8 t j)
        · have HC : Hid (∀ W, Calls Tryd.prog 26 #[.int .u8 (by8 r j), .int .u8 (by8 t j)] W fun e w' => e = .returned (.bool true) ∧ w' = W) := fun W => by
            have := HC0.out W
            rw [decide_eq_true he] at this
            exact this
          have HE : Hid (lo8 (by8 r j) = lo8 (by8 t j)) := he
          clear he
          go_wp2
          go_quiet (first | (go_at_call 26; refine Calls.quiet_of_same (HC.out _)))
          go_wp2
          go_roundg q
          case measure => omega
          case rel =>
            refine ⟨j + 1, by omega, by omega, by go_num, by omega, HR.out.1.drewN _, fun i h0 h1 h2 => ?_⟩
            by_cases e : i = j
            · subst e; exact HE.out
            · exact HR.out.2 i h0 (by omega) h2
        · have HC : Hid (∀ W, Calls Tryd.prog 26 #[.int .u8 (by8 r j), .int .u8 (by8 t j)] W fun e w' => e = .returned (.bool false) ∧ w' = W) := fun W => by
            have := HC0.out W
            rw [decide_eq_false he] at this
            exact this
          have HE : Hid (¬ lo8 (by8 r j) = lo8 (by8 t j)) := he
          clear he
          go_wp2
          go_quiet (first | (go_at_call 26; refine Calls.quiet_of_same (HC.out _)))
          go_wp2
          go_ret
          exact ⟨answers rfl ⟨fun h => (by cases h), fun h => absurd (h.2 j hfj hj) HE.out⟩, HR.out.1.drewN _⟩
      · have hjd : decide ((j : Int) < (t.size : Int)) = false := by simp; omega
        go_wp2
        go_ret
        exact ⟨answers rfl ⟨fun _ => ⟨HSz.out, fun i h0 h1 => HR.out.2 i h0 (by omega) h1⟩, fun _ => rfl⟩, HR.out.1⟩
  · have hs' : ((r.size : Int) != (t.size : Int)) = true := by simp; omega
    go_enter Tryd.func11, Tryd.ntmps11
    go_wp2
    go_ret
    exact ⟨answers rfl ⟨fun h => (by cases h), fun h => absurd h.1 hs⟩, Kept.refl _ _⟩

set_option maxRecDepth 100000 in
set_option maxHeartbeats 1000000 in
theorem same13 (r t : ByteArray) (hr : WordOK r) (hb : r.size ≤ 1048576) (_hb2 : t.size ≤ 1048576) (w : World) : Calls Tryd.prog 13 #[.string r, .string t] w fun e w' => Answers (fun b => b = true ↔ SameFrom 8 r t) e ∧ Kept Nowhere w w' := by
  have HW : Hid (WordOK r) := hr
  clear hr
  by_cases hs : r.size = t.size
  · have hs' : ((r.size : Int) != (t.size : Int)) = false := by simp [hs]
    have HSz : Hid (r.size = t.size) := hs
    clear hs
    go_enter Tryd.func13, Tryd.ntmps13
    go_wp2
    go_loopg [5] (t.size - 8) (fun gk v5 wr => ∃ j : Nat, 8 ≤ j ∧ t.size - j = gk ∧ v5 = .int .i64 j ∧ j ≤ 1048576 ∧ Hid (Kept Nowhere w wr ∧ ∀ i, 8 ≤ i → i < j → i < t.size → lo8 (by8 r i) = lo8 (by8 t i)))
    case atStart => exact ⟨8, Nat.le_refl _, rfl, rfl, by omega, Kept.refl _ _, fun i h0 h1 => by omega⟩
    case round =>
      obtain ⟨j, hfj, hgk, rfl, hjb, HR⟩ := hrel
      by_cases hj : j < t.size
      · have hjr : j < r.size := by have := HSz.out; omega
        have hjI : (j : Int) < (t.size : Int) := by omega
        have hjJ : (j : Int) < (r.size : Int) := by omega
        have hx := by8_eq hj
        have hy := by8_eq hjr
        have HC0 : Hid (∀ W, Calls Tryd.prog 26 #[.int .u8 (by8 r j), .int .u8 (by8 t j)] W fun e w' => e = .returned (.bool (decide (lo8 (by8 r j) = lo8 (by8 t j)))) ∧ w' = W) := fun W => res26 (by8 r j) (by8 t j) (HW.out j hjr) (by8_lo _ _) (by8_hi _ _) W
        obtain ⟨q, rfl⟩ : ∃ q, gk = q + 1 := ⟨gk - 1, by omega⟩
        by_cases he : lo8 (by8 r j) = lo8 (by8 t j)
        · have HC : Hid (∀ W, Calls Tryd.prog 26 #[.int .u8 (by8 r j), .int .u8 (by8 t j)] W fun e w' => e = .returned (.bool true) ∧ w' = W) := fun W => by
            have := HC0.out W
            rw [decide_eq_true he] at this
            exact this
          have HE : Hid (lo8 (by8 r j) = lo8 (by8 t j)) := he
          clear he
          go_wp2
          go_quiet (first | (go_at_call 26; refine Calls.quiet_of_same (HC.out _)))
          go_wp2
          go_roundg q
          case measure => omega
          case rel =>
            refine ⟨j + 1, by omega, by omega, by go_num, by omega, HR.out.1.drewN _, fun i h0 h1 h2 => ?_⟩
            by_cases e : i = j
            · subst e; exact HE.out
            · exact HR.out.2 i h0 (by omega) h2
        · have HC : Hid (∀ W, Calls Tryd.prog 26 #[.int .u8 (by8 r j), .int .u8 (by8 t j)] W fun e w' => e = .returned (.bool false) ∧ w' = W) := fun W => by
            have := HC0.out W
            rw [decide_eq_false he] at this
            exact this
          have HE : Hid (¬ lo8 (by8 r j) = lo8 (by8 t j)) := he
          clear he
          go_wp2
          go_quiet (first | (go_at_call 26; refine Calls.quiet_of_same (HC.out _)))
          go_wp2
          go_ret
          exact ⟨answers rfl ⟨fun h => (by cases h), fun h => absurd (h.2 j hfj hj) HE.out⟩, HR.out.1.drewN _⟩
      · have hjd : decide ((j : Int) < (t.size : Int)) = false := by simp; omega
        go_wp2
        go_ret
        exact ⟨answers rfl ⟨fun _ => ⟨HSz.out, fun i h0 h1 => HR.out.2 i h0 (by omega) h1⟩, fun _ => rfl⟩, HR.out.1⟩
  · have hs' : ((r.size : Int) != (t.size : Int)) = true := by simp; omega
    go_enter Tryd.func13, Tryd.ntmps13
    go_wp2
    go_ret
    exact ⟨answers rfl ⟨fun h => (by cases h), fun h => absurd h.1 hs⟩, Kept.refl _ _⟩
end Go.Proofs.Qxb6604040aDoor
