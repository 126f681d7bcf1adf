import Derived.Test.Qxb6604039aWinMem
import Derived.WalkSmall
namespace Go.Proofs.Qxb6604039a
open Go.RowKit

set_option maxRecDepth 100000 in
set_option maxHeartbeats 8000000 in
theorem window_big (B : Bool) (sa pa oa ma qa fa ba : Option Addr) (sn sk pn pk n ok mn mk qn qk fn fk bn bk : Nat) (stamp start e bound : Int) (A : Nat → Option Addr) (L C : Nat → Nat) (X : Nat → Nat → Int) (A' : Nat → Option Addr) (L' C' : Nat → Nat) (X' : Nat → Nat → Int) (w : World)
    (hs : GraphAt w sa sn A L C X) (hp : GraphAt w pa pn A' L' C' X')
    (hbig : 65536 < (sn : Int) ∨ 65536 < (pn : Int) ∨ 131072 < (n : Int) ∨ 131072 < (mn : Int) ∨ 131072 < (qn : Int) ∨ 131072 < (fn : Int) ∨ 131072 < (bn : Int) ∨ 1048576 < 8 * ((n : Int) + mn + qn + fn + bn)) :
    Calls Try.prog 5 #[.slice sa sn sk, .slice pa pn pk, .slice oa n ok, .int .i64 stamp, .slice ma mn mk, .slice qa qn qk, .slice fa fn fk, .slice ba bn bk, .int .i64 start, .int .i64 e, .int .i64 bound, .bool B] w fun e w' => e = .returned (.bool true) ∧ Below w.heap.size w w' := by
  have HB : Hid (Calls Try.prog 20 #[.slice sa sn sk, .slice pa pn pk, .slice oa n ok, .int .i64 stamp, .slice ma mn mk, .slice qa qn qk, .slice fa fn fk, .slice ba bn bk, .int .i64 start, .int .i64 e, .int .i64 bound, .bool B] w fun e w' => Answers (fun _ => True) e ∧ w' = w) := bytes20 sa pa oa ma qa fa ba sn sk pn pk n ok mn mk qn qk fn fk bn bk stamp start e bound B A L C X A' L' C' X' w hs hp
  clear hs hp
  by_cases g0 : 65536 < (sn : Int)
  case pos =>
    have d0 : decide (65536 < (sn : Int)) = true := decide_eq_true g0
    clear hbig
    go_enter Try.func5, Try.ntmps5
    go_wp2_with (go_at_call 20; refine HB.out.mono ?_; rintro e w1 ⟨⟨r, rfl, -⟩, rfl⟩; cases r)
    all_goals go_ret
    all_goals exact ⟨rfl, Below.refl _ _⟩
  have d0 : decide (65536 < (sn : Int)) = false := decide_eq_false g0
  by_cases g1 : 65536 < (pn : Int)
  case pos =>
    have d1 : decide (65536 < (pn : Int)) = true := decide_eq_true g1
    clear hbig
    go_enter Try.func5, Try.ntmps5
    go_wp2_with (go_at_call 20; refine HB.out.mono ?_; rintro e w1 ⟨⟨r, rfl, -⟩, rfl⟩; cases r)
    all_goals go_ret
    all_goals exact ⟨rfl, Below.refl _ _⟩
  have d1 : decide (65536 < (pn : Int)) = false := decide_eq_false g1
  by_cases g2 : 131072 < (n : Int)
  case pos =>
    have d2 : decide (131072 < (n : Int)) = true := decide_eq_true g2
    clear hbig
    go_enter Try.func5, Try.ntmps5
    go_wp2_with (go_at_call 20; refine HB.out.mono ?_; rintro e w1 ⟨⟨r, rfl, -⟩, rfl⟩; cases r)
    all_goals go_ret
    all_goals exact ⟨rfl, Below.refl _ _⟩
  have d2 : decide (131072 < (n : Int)) = false := decide_eq_false g2
  by_cases g3 : 131072 < (mn : Int)
  case pos =>
    have d3 : decide (131072 < (mn : Int)) = true := decide_eq_true g3
    clear hbig
    go_enter Try.func5, Try.ntmps5
    go_wp2_with (go_at_call 20; refine HB.out.mono ?_; rintro e w1 ⟨⟨r, rfl, -⟩, rfl⟩; cases r)
    all_goals go_ret
    all_goals exact ⟨rfl, Below.refl _ _⟩
  have d3 : decide (131072 < (mn : Int)) = false := decide_eq_false g3
  by_cases g4 : 131072 < (qn : Int)
  case pos =>
    have d4 : decide (131072 < (qn : Int)) = true := decide_eq_true g4
    clear hbig
    go_enter Try.func5, Try.ntmps5
    go_wp2_with (go_at_call 20; refine HB.out.mono ?_; rintro e w1 ⟨⟨r, rfl, -⟩, rfl⟩; cases r)
    all_goals go_ret
    all_goals exact ⟨rfl, Below.refl _ _⟩
  have d4 : decide (131072 < (qn : Int)) = false := decide_eq_false g4
  by_cases g5 : 131072 < (fn : Int)
  case pos =>
    have d5 : decide (131072 < (fn : Int)) = true := decide_eq_true g5
    clear hbig
    go_enter Try.func5, Try.ntmps5
    go_wp2_with (go_at_call 20; refine HB.out.mono ?_; rintro e w1 ⟨⟨r, rfl, -⟩, rfl⟩; cases r)
    all_goals go_ret
    all_goals exact ⟨rfl, Below.refl _ _⟩
  have d5 : decide (131072 < (fn : Int)) = false := decide_eq_false g5
  by_cases g6 : 131072 < (bn : Int)
  case pos =>
    have d6 : decide (131072 < (bn : Int)) = true := decide_eq_true g6
    clear hbig
    go_enter Try.func5, Try.ntmps5
    go_wp2_with (go_at_call 20; refine HB.out.mono ?_; rintro e w1 ⟨⟨r, rfl, -⟩, rfl⟩; cases r)
    all_goals go_ret
    all_goals exact ⟨rfl, Below.refl _ _⟩
  have d6 : decide (131072 < (bn : Int)) = false := decide_eq_false g6
  have g7 : 1048576 < 8 * ((n : Int) + mn + qn + fn + bn) := by omega
  clear hbig
  go_enter Try.func5, Try.ntmps5
  go_wp2_with (go_at_call 20; refine HB.out.mono ?_; rintro e w1 ⟨⟨r, rfl, -⟩, rfl⟩; cases r)
  all_goals go_ret
  all_goals exact ⟨rfl, Below.refl _ _⟩

end Go.Proofs.Qxb6604039a
