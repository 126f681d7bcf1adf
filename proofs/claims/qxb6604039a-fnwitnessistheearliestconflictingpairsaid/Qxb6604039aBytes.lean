/-
  The byte counts: they answer a bool and leave all as it was.
-/
import Derived.Test.Qxb6604039aLeaf2
namespace Go.Proofs.Qxb6604039a
open Go.RowKit

set_option maxRecDepth 100000 in
set_option maxHeartbeats 2000000 in
theorem bytes26 (sa pa oa ma qa fa ba : Option Addr) (sn sk pn pk on ok mn mk qn qk fn fk bn bk : Nat) (stamp start e bound : Int) (fwd : Bool) (A : Nat → Option Addr) (L C : Nat → Nat) (X : Nat → Nat → Int) (A' : Nat → Option Addr) (L' C' : Nat → Nat) (X' : Nat → Nat → Int) (w : World)
    (hs : GraphAt w sa sn A L C X) (hp : GraphAt w pa pn A' L' C' X') :
    Calls Try.prog 26 #[.slice sa sn sk, .slice pa pn pk, .slice oa on ok, .int .i64 stamp, .slice ma mn mk, .slice qa qn qk, .slice fa fn fk, .slice ba bn bk, .int .i64 start, .int .i64 e, .int .i64 bound, .bool fwd] w fun e w' => Answers (fun _ => True) e ∧ w' = w := by
  have HS : Hid (GraphAt w sa sn A L C X ∧ GraphAt w pa pn A' L' C' X') := ⟨hs, hp⟩
  clear hs hp
  by_cases h1 : sn ≤ 1048576
  · go_enter Try.func26, Try.ntmps26
    go_wp2
    go_loopg [25, 26] sn (fun gk t i wr => ∃ (j : Nat) (z : Int), j + gk = sn ∧ i = .int .i64 j ∧ t = .int .i64 z ∧ 0 ≤ z ∧ z ≤ 1048576 ∧ wr = w)
    case atStart => exact ⟨0, sn, by omega, rfl, rfl, by omega, by omega, rfl⟩
    case round =>
      obtain ⟨j, z, hjk, rfl, rfl, hz0, hz1, rfl⟩ := hrel
      by_cases hj : j < sn
      · obtain ⟨b, o, rfl, hc⟩ := HS.out.1.1 (by omega)
        have hc' := hc j hj
        have hjI : (j : Int) < (sn : Int) := by omega
        obtain ⟨a, ha⟩ : ∃ a, A j = a := ⟨_, rfl⟩
        obtain ⟨l, hl⟩ : ∃ l, L j = l := ⟨_, rfl⟩
        obtain ⟨k, hk⟩ : ∃ k, C j = k := ⟨_, rfl⟩
        rw [ha, hl, hk] at hc'
        clear ha hl hk hc
        obtain ⟨q, rfl⟩ : ∃ q, gk = q + 1 := ⟨gk - 1, by omega⟩
        by_cases hl : (l : Int) ≤ 1048576
        · by_cases hz : z + (l : Int) ≤ 1048576
          · go_wp2
            go_roundg q
            case measure => omega
            case rel => exact ⟨j + 1, z + l, by omega, by go_num, rfl, by omega, by omega, rfl⟩
          · go_wp2
            go_ret
            exact ⟨answers rfl trivial, rfl⟩
        · go_wp2
          go_ret
          exact ⟨answers rfl trivial, rfl⟩
      · by_cases hl : (pn : Int) ≤ 1048576
        · by_cases hz : z + (pn : Int) ≤ 1048576
          · go_wp2
            go_loopg [25, 27] pn (fun gk t i wi => ∃ (j : Nat) (z : Int), j + gk = pn ∧ i = .int .i64 j ∧ t = .int .i64 z ∧ 0 ≤ z ∧ z ≤ 1048576 ∧ wi = wr)
            case atStart => exact ⟨0, z + pn, by omega, rfl, rfl, by omega, by omega, rfl⟩
            case round =>
              obtain ⟨t, y, htk, rfl, rfl, hy0, hy1, rfl⟩ := hrel
              by_cases ht : t < pn
              · obtain ⟨b, o, rfl, hc⟩ := HS.out.2.1 (by omega)
                have hc' := hc t ht
                have htI : (t : Int) < (pn : Int) := by omega
                obtain ⟨a, ha⟩ : ∃ a, A' t = a := ⟨_, rfl⟩
                obtain ⟨l, hl'⟩ : ∃ l, L' t = l := ⟨_, rfl⟩
                obtain ⟨k, hk⟩ : ∃ k, C' t = k := ⟨_, rfl⟩
                rw [ha, hl', hk] at hc'
                clear ha hl' hk hc
                obtain ⟨q, rfl⟩ : ∃ q, gk = q + 1 := ⟨gk - 1, by omega⟩
                by_cases hl2 : (l : Int) ≤ 1048576
                · by_cases hz2 : y + (l : Int) ≤ 1048576
                  · go_wp2
                    go_roundg q
                    case measure => omega
                    case rel => exact ⟨t + 1, y + l, by omega, by go_num, rfl, by omega, by omega, rfl⟩
                  · go_wp2
                    go_ret
                    exact ⟨answers rfl trivial, rfl⟩
                · go_wp2
                  go_ret
                  exact ⟨answers rfl trivial, rfl⟩
              · go_wp2
                all_goals go_ret
                all_goals exact ⟨answers rfl trivial, rfl⟩
          · go_wp2
            go_ret
            exact ⟨answers rfl trivial, rfl⟩
        · go_wp2
          go_ret
          exact ⟨answers rfl trivial, rfl⟩
  · have h1' : (1048576 : Int) < (sn : Int) := by omega
    go_enter Try.func26, Try.ntmps26
    go_wp2
    go_ret
    exact ⟨answers rfl trivial, rfl⟩

set_option maxRecDepth 100000 in
set_option maxHeartbeats 2000000 in
theorem bytes20 (sa pa oa ma qa fa ba : Option Addr) (sn sk pn pk on ok mn mk qn qk fn fk bn bk : Nat) (stamp start e bound : Int) (fwd : Bool) (A : Nat → Option Addr) (L C : Nat → Nat) (X : Nat → Nat → Int) (A' : Nat → Option Addr) (L' C' : Nat → Nat) (X' : Nat → Nat → Int) (w : World)
    (hs : GraphAt w sa sn A L C X) (hp : GraphAt w pa pn A' L' C' X') :
    Calls Try.prog 20 #[.slice sa sn sk, .slice pa pn pk, .slice oa on ok, .int .i64 stamp, .slice ma mn mk, .slice qa qn qk, .slice fa fn fk, .slice ba bn bk, .int .i64 start, .int .i64 e, .int .i64 bound, .bool fwd] w fun e w' => Answers (fun _ => True) e ∧ w' = w := by
  have HS : Hid (GraphAt w sa sn A L C X ∧ GraphAt w pa pn A' L' C' X') := ⟨hs, hp⟩
  clear hs hp
  by_cases h1 : sn ≤ 1048576
  · go_enter Try.func20, Try.ntmps20
    go_wp2
    go_loopg [25, 26] sn (fun gk t i wr => ∃ (j : Nat) (z : Int), j + gk = sn ∧ i = .int .i64 j ∧ t = .int .i64 z ∧ 0 ≤ z ∧ z ≤ 1048576 ∧ wr = w)
    case atStart => exact ⟨0, sn, by omega, rfl, rfl, by omega, by omega, rfl⟩
    case round =>
      obtain ⟨j, z, hjk, rfl, rfl, hz0, hz1, rfl⟩ := hrel
      by_cases hj : j < sn
      · obtain ⟨b, o, rfl, hc⟩ := HS.out.1.1 (by omega)
        have hc' := hc j hj
        have hjI : (j : Int) < (sn : Int) := by omega
        obtain ⟨a, ha⟩ : ∃ a, A j = a := ⟨_, rfl⟩
        obtain ⟨l, hl⟩ : ∃ l, L j = l := ⟨_, rfl⟩
        obtain ⟨k, hk⟩ : ∃ k, C j = k := ⟨_, rfl⟩
        rw [ha, hl, hk] at hc'
        clear ha hl hk hc
        obtain ⟨q, rfl⟩ : ∃ q, gk = q + 1 := ⟨gk - 1, by omega⟩
        by_cases hl : (l : Int) ≤ 1048576
        · by_cases hz : z + (l : Int) ≤ 1048576
          · go_wp2
            go_roundg q
            case measure => omega
            case rel => exact ⟨j + 1, z + l, by omega, by go_num, rfl, by omega, by omega, rfl⟩
          · go_wp2
            go_ret
            exact ⟨answers rfl trivial, rfl⟩
        · go_wp2
          go_ret
          exact ⟨answers rfl trivial, rfl⟩
      · by_cases hl : (pn : Int) ≤ 1048576
        · by_cases hz : z + (pn : Int) ≤ 1048576
          · go_wp2
            go_loopg [25, 27] pn (fun gk t i wi => ∃ (j : Nat) (z : Int), j + gk = pn ∧ i = .int .i64 j ∧ t = .int .i64 z ∧ 0 ≤ z ∧ z ≤ 1048576 ∧ wi = wr)
            case atStart => exact ⟨0, z + pn, by omega, rfl, rfl, by omega, by omega, rfl⟩
            case round =>
              obtain ⟨t, y, htk, rfl, rfl, hy0, hy1, rfl⟩ := hrel
              by_cases ht : t < pn
              · obtain ⟨b, o, rfl, hc⟩ := HS.out.2.1 (by omega)
                have hc' := hc t ht
                have htI : (t : Int) < (pn : Int) := by omega
                obtain ⟨a, ha⟩ : ∃ a, A' t = a := ⟨_, rfl⟩
                obtain ⟨l, hl'⟩ : ∃ l, L' t = l := ⟨_, rfl⟩
                obtain ⟨k, hk⟩ : ∃ k, C' t = k := ⟨_, rfl⟩
                rw [ha, hl', hk] at hc'
                clear ha hl' hk hc
                obtain ⟨q, rfl⟩ : ∃ q, gk = q + 1 := ⟨gk - 1, by omega⟩
                by_cases hl2 : (l : Int) ≤ 1048576
                · by_cases hz2 : y + (l : Int) ≤ 1048576
                  · go_wp2
                    go_roundg q
                    case measure => omega
                    case rel => exact ⟨t + 1, y + l, by omega, by go_num, rfl, by omega, by omega, rfl⟩
                  · go_wp2
                    go_ret
                    exact ⟨answers rfl trivial, rfl⟩
                · go_wp2
                  go_ret
                  exact ⟨answers rfl trivial, rfl⟩
              · go_wp2
                all_goals go_ret
                all_goals exact ⟨answers rfl trivial, rfl⟩
          · go_wp2
            go_ret
            exact ⟨answers rfl trivial, rfl⟩
        · go_wp2
          go_ret
          exact ⟨answers rfl trivial, rfl⟩
  · have h1' : (1048576 : Int) < (sn : Int) := by omega
    go_enter Try.func20, Try.ntmps20
    go_wp2
    go_ret
    exact ⟨answers rfl trivial, rfl⟩

end Go.Proofs.Qxb6604039a
