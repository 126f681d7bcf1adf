/-
  The laws' small functions: isSpaceByte, isWordByte, listInDomain.
-/
import Derived.Test.Qxb6604040aDoorRows
import Derived.WalkKit
import Derived.WalkSmall
import Derived.Deep.LoopGhost
import Derived.Deep.QuietTactic
import Derived.BigQuiet
import Derived.Deep.RegionWith
namespace Go.Proofs.Qxb6604040aDoor
open Go.RowKit

def isSpI (b : Int) : Bool := decide (b = 32) || (decide (9 ≤ b) && decide (b ≤ 13))
def isWdI (b : Int) : Bool := (decide (65 ≤ b) && decide (b ≤ 90)) || (decide (97 ≤ b) && decide (b ≤ 122)) || decide (b = 95)

set_option maxRecDepth 100000 in
set_option maxHeartbeats 400000 in
theorem space29 (b : Int) (w : World) : Calls Tryd.prog 29 #[.int .u8 b] w fun e w' => e = .returned (.bool (isSpI b)) ∧ w' = w := by
  by_cases h1 : b = 32
  · subst h1
    go_enter Tryd.func29, Tryd.ntmps29
    go_wp2
    go_ret
    exact ⟨rfl, rfl⟩
  · have d1 : (b == 32) = false := by simp [h1]
    by_cases h2 : 9 ≤ b
    · by_cases h3 : b ≤ 13
      · go_enter Tryd.func29, Tryd.ntmps29
        go_wp2
        go_ret
        exact ⟨by simp [isSpI, h2, h3], rfl⟩
      · have d3 : decide (b ≤ 13) = false := by simp; omega
        go_enter Tryd.func29, Tryd.ntmps29
        go_wp2
        go_ret
        exact ⟨by simp [isSpI, h1, d3], rfl⟩
    · have d2 : decide (9 ≤ b) = false := by simp; omega
      go_enter Tryd.func29, Tryd.ntmps29
      go_wp2
      go_ret
      exact ⟨by simp [isSpI, h1, d2], rfl⟩

set_option maxRecDepth 100000 in
set_option maxHeartbeats 1000000 in
theorem word28 (b : Int) (w : World) : Calls Tryd.prog 28 #[.int .u8 b] w fun e w' => e = .returned (.bool (isWdI b)) ∧ w' = w := by
  have hc : (b < 65) ∨ (65 ≤ b ∧ b ≤ 90) ∨ (b = 95) ∨ (90 < b ∧ b < 97 ∧ b ≠ 95) ∨ (97 ≤ b ∧ b ≤ 122) ∨ 122 < b := by omega
  rcases hc with h | ⟨h, h'⟩ | h | ⟨h, h', h''⟩ | ⟨h, h'⟩ | h
  · have d1 : decide (65 ≤ b) = false := by simp; omega
    have d2 : decide (97 ≤ b) = false := by simp; omega
    have d3 : (b == 95) = false := by simp; omega
    go_enter Tryd.func28, Tryd.ntmps28
    go_wp2
    go_ret
    exact ⟨by simp [isWdI, d1, d2]; omega, rfl⟩
  · go_enter Tryd.func28, Tryd.ntmps28
    go_wp2
    go_ret
    exact ⟨by simp [isWdI, h, h'], rfl⟩
  · subst h
    go_enter Tryd.func28, Tryd.ntmps28
    go_wp2
    go_ret
    exact ⟨rfl, rfl⟩
  · have d0 : 65 ≤ b := by omega
    have d1 : decide (b ≤ 90) = false := by simp; omega
    have d2 : decide (97 ≤ b) = false := by simp; omega
    have d3 : (b == 95) = false := by simp; omega
    go_enter Tryd.func28, Tryd.ntmps28
    go_wp2
    go_ret
    exact ⟨by simp [isWdI, d1, d2, h''], rfl⟩
  · have d0 : 65 ≤ b := by omega
    have d1 : decide (b ≤ 90) = false := by simp; omega
    go_enter Tryd.func28, Tryd.ntmps28
    go_wp2
    go_ret
    exact ⟨by simp [isWdI, h, h'], rfl⟩
  · have d0 : 65 ≤ b := by omega
    have d1 : decide (b ≤ 90) = false := by simp; omega
    have d2 : 97 ≤ b := by omega
    have d3 : decide (b ≤ 122) = false := by simp; omega
    have d4 : (b == 95) = false := by simp; omega
    go_enter Tryd.func28, Tryd.ntmps28
    go_wp2
    go_ret
    exact ⟨by simp [isWdI, d1, d3]; omega, rfl⟩

/-- byte j, as the walk reads it -/
def by8 (s : ByteArray) (j : Nat) : Int := if h : j < s.size then (s[j].toNat : Int) else 0
theorem by8_eq {s : ByteArray} {j : Nat} (h : j < s.size) : ((s[j].toNat : Nat) : Int) = by8 s j := by simp [by8, h]
theorem by8_lo (s : ByteArray) (j : Nat) : 0 ≤ by8 s j := by unfold by8; split <;> omega
theorem by8_hi (s : ByteArray) (j : Nat) : by8 s j < 256 := by
  unfold by8; split
  · next h => have := s[j].toNat_lt; omega
  · omega

/-- every byte before k is a word's or a space -/
def InDom (s : ByteArray) (k : Nat) : Prop := ∀ i, i < k → isWdI (by8 s i) = true ∨ isSpI (by8 s i) = true

def Answers (D : Bool → Prop) (e : Ending) : Prop := ∃ r, e = .returned (.bool r) ∧ D r
theorem answers {D : Bool → Prop} {r : Bool} {e : Ending} (h : e = .returned (.bool r)) (hd : D r) : Answers D e := ⟨r, h, hd⟩

set_option maxRecDepth 100000 in
set_option maxHeartbeats 400000 in
theorem domain20 (s : ByteArray) (w : World) (hb : s.size ≤ 1048576) : Calls Tryd.prog 20 #[.string s] w fun e w' => Answers (fun r => r = true → InDom s s.size) e ∧ w' = w := by
  go_enter Tryd.func20, Tryd.ntmps20
  go_wp2
  go_loopg [3] s.size (fun gk i wr => ∃ j : Nat, j + gk = s.size ∧ i = .int .i64 j ∧ wr = w ∧ Hid (InDom s j))
  case atStart => exact ⟨0, by omega, rfl, rfl, fun i h => by omega⟩
  case round =>
    obtain ⟨j, hjk, rfl, hwr, HD⟩ := hrel
    subst wr
    by_cases hj : j < s.size
    · have hjI : (j : Int) < (s.size : Int) := by omega
      obtain ⟨q, rfl⟩ : ∃ q, gk = q + 1 := ⟨gk - 1, by omega⟩
      have hx := by8_eq hj
      obtain ⟨b, hb⟩ : ∃ b, by8 s j = b := ⟨_, rfl⟩
      rw [hb] at hx
      have HB : Hid (by8 s j = b) := hb
      clear hb
      by_cases h1 : isWdI b = true
      · go_wp2_with (go_at_call 28; refine (word28 b w).mono ?_; rintro e w1 ⟨rfl, hw1⟩; subst w1; rw [h1])
        go_roundg q
        case measure => omega
        case rel =>
          refine ⟨j + 1, by omega, by go_num, rfl, fun i hi => ?_⟩
          by_cases e : i = j
          · subst e; rw [HB.out]; exact .inl h1
          · exact HD.out i (by omega)
      · have h1' : isWdI b = false := by simpa using h1
        by_cases h2 : isSpI b = true
        · go_wp2_with (first | (go_at_call 28; refine (word28 b w).mono ?_; rintro e w1 ⟨rfl, hw1⟩; subst w1; rw [h1']) | (go_at_call 29; refine (space29 b w).mono ?_; rintro e w1 ⟨rfl, hw1⟩; subst w1; rw [h2]))
          go_roundg q
          case measure => omega
          case rel =>
            refine ⟨j + 1, by omega, by go_num, rfl, fun i hi => ?_⟩
            by_cases e : i = j
            · subst e; rw [HB.out]; exact .inr h2
            · exact HD.out i (by omega)
        · have h2' : isSpI b = false := by simpa using h2
          go_wp2_with (first | (go_at_call 28; refine (word28 b w).mono ?_; rintro e w1 ⟨rfl, hw1⟩; subst w1; rw [h1']) | (go_at_call 29; refine (space29 b w).mono ?_; rintro e w1 ⟨rfl, hw1⟩; subst w1; rw [h2']))
          go_ret
          exact ⟨answers rfl (fun h => by cases h), rfl⟩
    · go_wp2
      go_ret
      refine ⟨answers rfl (fun _ i hi => HD.out i (by omega)), rfl⟩
end Go.Proofs.Qxb6604040aDoor
