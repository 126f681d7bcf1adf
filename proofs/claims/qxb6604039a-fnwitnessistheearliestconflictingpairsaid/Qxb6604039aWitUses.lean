/-
  usesOf.
-/
import Derived.Test.Qxb6604039aWitPlain2
namespace Go.Proofs.Qxb6604039a
open Go.RowKit

set_option maxRecDepth 100000 in
set_option maxHeartbeats 1000000 in
theorem usesOf33 (sb bU bu ou nU kU nu ku x lo hi : Nat) (w : World) (c4 : w.cell? ⟨sb, 4, none⟩ = some (.slice (some ⟨bU, 0, none⟩) nU kU)) (c5 : w.cell? ⟨sb, 5, none⟩ = some (.slice (some ⟨bu, ou, none⟩) nu ku))
    (cx : w.cell? ⟨bu, ou + x, none⟩ = some (.int .i64 lo)) (cx1 : w.cell? ⟨bu, ou + (x + 1), none⟩ = some (.int .i64 hi)) (hx : x + 1 < nu) (hnu : nu ≤ 1048576) (hlh : lo ≤ hi) (hhU : hi ≤ nU) (hk : nU ≤ kU) :
    Calls Try.prog 33 #[.pointer (some ⟨sb, 0, none⟩), .int .i64 (x : Nat)] w fun e w' => (∃ oo, e = .returned (.slice (some ⟨bU, oo, none⟩) (hi - lo) (kU - lo)) ∧ (lo < hi → oo = lo * 7)) ∧ ∃ q, w' = w.drewN q := by
  have h1 : (x : Int) < (nu : Int) := by omega
  have h2 : (x : Int) + 1 < (nu : Int) := by omega
  have h3 : (lo : Int) ≤ (hi : Int) := by omega
  have h4 : (hi : Int) ≤ (kU : Int) := by omega
  by_cases hkl : kU = lo
  · obtain rfl : lo = hi := by omega
    subst hkl
    go_enter Try.func33, Try.ntmps33
    go_wp2
    go_quiet (fail)
    go_wp2
    go_ret
    exact ⟨⟨0, by simp, fun h => by omega⟩, _, rfl⟩
  · go_enter Try.func33, Try.ntmps33
    go_wp2
    go_quiet (fail)
    go_wp2
    go_ret
    exact ⟨⟨_, rfl, fun _ => rfl⟩, _, rfl⟩
end Go.Proofs.Qxb6604039a
