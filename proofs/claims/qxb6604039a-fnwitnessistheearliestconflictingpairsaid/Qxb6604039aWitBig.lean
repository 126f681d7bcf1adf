/-
  The witness's law at arguments beyond its bounds: true at once.
-/
import Derived.Test.Qxb6604039aWitDom2
import Derived.WalkSmall
namespace Go.Proofs.Qxb6604039a
open Go.RowKit

set_option maxRecDepth 100000 in
set_option maxHeartbeats 8000000 in
theorem witlaw_big (a aU au : Option Addr) (n k nU kU nu ku : Nat) (x y : Int) (A : Nat → Option Addr) (L C : Nat → Nat) (X : Nat → Nat → Stp) (w : World) (h : LogsAt w a n A L C X)
    (hbig : 4096 < (n : Int) ∨ 32768 < (nU : Int) ∨ 65536 < (nu : Int) ∨ 1048576 < 8 * (nu : Int) + 24 * (nU : Int)) :
    Calls Try.prog 4 #[.slice a n k, .slice aU nU kU, .slice au nu ku, .int .i64 x, .int .i64 y] w fun e w' => e = .returned (.bool true) ∧ Kept Nowhere w w' := by
  have HB : Hid (Calls Try.prog 11 #[.slice a n k, .slice aU nU kU, .slice au nu ku, .int .i64 x, .int .i64 y] w fun e w' => Answers (fun _ => True) e ∧ w' = w) := bytes11 a aU au n k nU kU nu ku x y A L C X w h
  clear h
  by_cases g0 : 4096 < (n : Int)
  case pos =>
    have d0 : decide (4096 < (n : Int)) = true := decide_eq_true g0
    clear hbig
    go_enter Try.func4, Try.ntmps4
    go_wp2_with (go_at_call 11; refine HB.out.mono ?_; rintro e w1 ⟨⟨r, rfl, -⟩, hw1⟩; subst w1; cases r)
    all_goals go_ret
    all_goals exact ⟨rfl, Kept.refl _ _⟩
  have d0 : decide (4096 < (n : Int)) = false := decide_eq_false g0
  by_cases g1 : 32768 < (nU : Int)
  case pos =>
    have d1 : decide (32768 < (nU : Int)) = true := decide_eq_true g1
    clear hbig
    go_enter Try.func4, Try.ntmps4
    go_wp2_with (go_at_call 11; refine HB.out.mono ?_; rintro e w1 ⟨⟨r, rfl, -⟩, hw1⟩; subst w1; cases r)
    all_goals go_ret
    all_goals exact ⟨rfl, Kept.refl _ _⟩
  have d1 : decide (32768 < (nU : Int)) = false := decide_eq_false g1
  by_cases g2 : 65536 < (nu : Int)
  case pos =>
    have d2 : decide (65536 < (nu : Int)) = true := decide_eq_true g2
    clear hbig
    go_enter Try.func4, Try.ntmps4
    go_wp2_with (go_at_call 11; refine HB.out.mono ?_; rintro e w1 ⟨⟨r, rfl, -⟩, hw1⟩; subst w1; cases r)
    all_goals go_ret
    all_goals exact ⟨rfl, Kept.refl _ _⟩
  have d2 : decide (65536 < (nu : Int)) = false := decide_eq_false g2
  have g3 : 1048576 < 8 * (nu : Int) + 24 * (nU : Int) := by omega
  have h0 : (n : Int) ≤ 4096 := by omega
  have h1 : (nU : Int) ≤ 32768 := by omega
  have h2 : (nu : Int) ≤ 65536 := by omega
  clear hbig g0 g1 g2
  go_enter Try.func4, Try.ntmps4
  go_wp2_with (go_at_call 11; refine HB.out.mono ?_; rintro e w1 ⟨⟨r, rfl, -⟩, hw1⟩; subst w1; cases r)
  all_goals go_ret
  all_goals exact ⟨rfl, Kept.refl _ _⟩
end Go.Proofs.Qxb6604039a
