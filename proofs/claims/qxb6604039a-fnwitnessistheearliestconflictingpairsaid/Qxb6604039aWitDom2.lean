/-
  zzWitnessDomain whole; the byte count.
-/
import Derived.Test.Qxb6604039aWitDom
namespace Go.Proofs.Qxb6604039a
open Go.RowKit

set_option maxRecDepth 100000 in
set_option maxHeartbeats 1000000 in
theorem dom12 (a aU au : Option Addr) (n k nU kU nu ku : Nat) (x : Int) (A : Nat → Option Addr) (L C : Nat → Nat) (X : Nat → Nat → Stp) (U : Nat → Us) (O : Nat → Int) (w : World)
    (h : LogsAt w a n A L C X) (hU : UsesAt w aU nU U) (hO : IntsAt w au nu O) (hb : n ≤ 4096) (hL : ∀ i, i < n → L i ≤ 1048576) (hnU : nU ≤ 1048576) (hnu : nu ≤ 1048576) :
    Calls Try.prog 12 #[.slice a n k, .slice aU nU kU, .slice au nu ku, .int .i64 x] w fun e w' => Answers (fun r => r = true → WDom n nU nu L X U O x) e ∧ Kept Nowhere w w' := by
  by_cases hx : 0 ≤ x ∧ x < (nu : Int) - 1
  · obtain ⟨hx0, hx1⟩ := hx
    obtain ⟨x, rfl⟩ := Int.eq_ofNat_of_zero_le hx0
    by_cases hlh : 0 ≤ O x ∧ O x ≤ O (x + 1) ∧ O (x + 1) ≤ nU
    · obtain ⟨hl0, hlh, hhU⟩ := hlh
      obtain ⟨lo, hlo⟩ := Int.eq_ofNat_of_zero_le hl0
      obtain ⟨hi, hhi⟩ := Int.eq_ofNat_of_zero_le (Int.le_trans hl0 hlh)
      refine (dom12_core a aU au n k nU kU nu ku x lo hi A L C X U O w h hU hO hb hL hnU hnu (by omega) hlo hhi (by omega) (by omega)).mono ?_
      rintro e w' ⟨⟨r, he, hr⟩, hk⟩
      refine ⟨answers he fun hrt => ?_, hk⟩
      obtain ⟨h1, h2, h3⟩ := hr hrt
      exact ⟨hx0, by omega, hl0, hlh, hhU, fun ui u0 u1 => (h1 ui (by simp only [Int.toNat_natCast] at u0; omega) (by simp only [Int.toNat_natCast] at u1; omega)).1, fun ui u0 u1 => (h1 ui (by simp only [Int.toNat_natCast] at u0; omega) (by simp only [Int.toNat_natCast] at u1; omega)).2, h2, h3⟩
    · obtain ⟨bu, ou, rfl, hcu⟩ := hO (by omega)
      have cx : w.cell? ⟨bu, ou + x, none⟩ = some (.int .i64 (O x)) := hcu x (by omega)
      have cx1 : w.cell? ⟨bu, ou + (x + 1), none⟩ = some (.int .i64 (O (x + 1))) := hcu (x + 1) (by omega)
      generalize O x = lo at *
      generalize O (x + 1) = hi at *
      have hlh' : lo < 0 ∨ (0 ≤ lo ∧ hi < lo) ∨ (0 ≤ lo ∧ lo ≤ hi ∧ (nU : Int) < hi) := by omega
      have hdx : decide ((nu : Int) - 1 ≤ x) = false := by simp; omega
      have hdx0 : decide ((x : Int) < 0) = false := by simp
      clear hlh hcu h hU hL hO
      rcases hlh' with h1 | ⟨h1, h2⟩ | ⟨h1, h2, h3⟩
      · go_enter Try.func12, Try.ntmps12
        go_wp2
        go_ret
        exact ⟨answers rfl (fun h => by cases h), Kept.refl _ _⟩
      · have d1 : decide (lo < 0) = false := by simp; omega
        go_enter Try.func12, Try.ntmps12
        go_wp2
        go_ret
        exact ⟨answers rfl (fun h => by cases h), Kept.refl _ _⟩
      · have d1 : decide (lo < 0) = false := by simp; omega
        have d2 : decide (hi < lo) = false := by simp; omega
        go_enter Try.func12, Try.ntmps12
        go_wp2
        go_ret
        exact ⟨answers rfl (fun h => by cases h), Kept.refl _ _⟩
  · have hx' : x < 0 ∨ (0 ≤ x ∧ (nu : Int) - 1 ≤ x) := by omega
    clear hx h hU hL hO
    rcases hx' with h1 | ⟨h1, h2⟩
    · go_enter Try.func12, Try.ntmps12
      go_wp2
      go_ret
      exact ⟨answers rfl (fun h => by cases h), Kept.refl _ _⟩
    · have d1 : decide (x < 0) = false := by simp; omega
      go_enter Try.func12, Try.ntmps12
      go_wp2
      go_ret
      exact ⟨answers rfl (fun h => by cases h), Kept.refl _ _⟩

set_option maxRecDepth 100000 in
set_option maxHeartbeats 1000000 in
theorem bytes11 (a aU au : Option Addr) (n k nU kU nu ku : Nat) (x y : Int) (A : Nat → Option Addr) (L C : Nat → Nat) (X : Nat → Nat → Stp) (w : World) (h : LogsAt w a n A L C X) :
    Calls Try.prog 11 #[.slice a n k, .slice aU nU kU, .slice au nu ku, .int .i64 x, .int .i64 y] w fun e w' => Answers (fun _ => True) e ∧ w' = w := by
  have HS : Hid (LogsAt w a n A L C X) := h
  clear h
  by_cases h1 : n ≤ 1048576
  · go_enter Try.func11, Try.ntmps11
    go_wp2
    go_loopg [11, 12] n (fun gk t i wr => ∃ (j : Nat) (z : Int), j + gk = n ∧ i = .int .i64 j ∧ t = .int .i64 z ∧ 0 ≤ z ∧ z ≤ 1048576 ∧ wr = w)
    case atStart => exact ⟨0, n, by omega, rfl, rfl, by omega, by omega, rfl⟩
    case round =>
      obtain ⟨j, z, hjk, rfl, rfl, hz0, hz1, rfl⟩ := hrel
      by_cases hj : j < n
      · obtain ⟨b, o, rfl, hc⟩ := HS.out.1 (by omega)
        have hc' := hc j hj
        have hjI : (j : Int) < (n : Int) := by omega
        obtain ⟨a, ha⟩ : ∃ a, A j = a := ⟨_, rfl⟩
        obtain ⟨l, hl⟩ : ∃ l, L j = l := ⟨_, rfl⟩
        obtain ⟨k, hk⟩ : ∃ k, C j = k := ⟨_, rfl⟩
        rw [ha, hl, hk] at hc'
        clear ha hl hk hc
        obtain ⟨q, rfl⟩ : ∃ q, gk = q + 1 := ⟨gk - 1, by omega⟩
        by_cases hl : (l : Int) ≤ 1048576
        · by_cases hz : z + (l : Int) ≤ 1048576
          · go_wp2
            go_roundg q
            case measure => omega
            case rel => exact ⟨j + 1, z + l, by omega, by go_num, rfl, by omega, by omega, rfl⟩
          · go_wp2
            go_ret
            exact ⟨answers rfl trivial, rfl⟩
        · go_wp2
          go_ret
          exact ⟨answers rfl trivial, rfl⟩
      · go_wp2
        all_goals go_ret
        all_goals exact ⟨answers rfl trivial, rfl⟩
  · have h1' : (1048576 : Int) < (n : Int) := by omega
    go_enter Try.func11, Try.ntmps11
    go_wp2
    go_ret
    exact ⟨answers rfl trivial, rfl⟩
end Go.Proofs.Qxb6604039a
