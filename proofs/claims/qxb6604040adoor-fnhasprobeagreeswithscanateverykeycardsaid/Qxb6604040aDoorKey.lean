/-
  wordKey: the key of a word, as a plain function, and its laws; the walk.
-/
import Derived.Test.Qxb6604040aDoorLeaf
import Derived.Laws.BitsAllLaws
namespace Go.Proofs.Qxb6604040aDoor
open Go.RowKit

/-- a byte with its 0x20 bit set -/
def lo8 (b : Int) : Int := bits .or .u8 b 32
theorem lo8_nat (b : Int) (h0 : 0 ≤ b) (h1 : b < 256) : lo8 b = ((b.toNat ||| 32 : Nat) : Int) := u8_or b 32 h0 h1 (by omega) (by omega)
theorem or32 : ∀ n : Nat, n < 256 → 32 ≤ n ||| 32 ∧ n ||| 32 < 256 := by decide +kernel
theorem lo8_lo {b : Int} (h0 : 0 ≤ b) (h1 : b < 256) : 32 ≤ lo8 b := by rw [lo8_nat b h0 h1]; have := (or32 b.toNat (by omega)).1; omega
theorem lo8_hi {b : Int} (h0 : 0 ≤ b) (h1 : b < 256) : lo8 b < 256 := by rw [lo8_nat b h0 h1]; have := (or32 b.toNat (by omega)).2; omega

def kstep (k b : Int) : Int := bits .or .u64 (IntKind.u64.wrap (k * 256)) (IntKind.u64.wrap (lo8 b))

theorem or_low (k a : Nat) (ha : a < 256) : k * 256 ||| a = k * 256 + a := by
  have := Nat.shiftLeft_add_eq_or_of_lt (a := k) (b := a) (i := 8) (by omega)
  rw [Nat.shiftLeft_eq] at this
  exact this.symm

theorem wrap_u64 {x : Int} (h0 : 0 ≤ x) (h1 : x < 18446744073709551616) : IntKind.u64.wrap x = x := by
  rw [IntKind.wrap_u64]
  exact Int.emod_eq_of_lt h0 h1

theorem kstep_eq {k b : Int} (hk0 : 0 ≤ k) (hk1 : k < 72057594037927936) (h0 : 0 ≤ b) (h1 : b < 256) : kstep k b = k * 256 + lo8 b := by
  have a0 := lo8_lo h0 h1
  have a1 := lo8_hi h0 h1
  unfold kstep
  rw [wrap_u64 (by omega) (by omega), wrap_u64 (by omega) (by omega), u64_or _ _ (by omega) (by omega) (by omega) (by omega)]
  have e : (k * 256).toNat = k.toNat * 256 := by omega
  rw [e, or_low _ _ (by omega)]
  omega

/-- the key of the d bytes below m -/
def keyD (s : ByteArray) (m : Nat) : Nat → Int
  | 0 => 0
  | d + 1 => kstep (keyD s m d) (by8 s (m - 1 - d))
def keyOf (s : ByteArray) : Int := keyD s (min s.size 8) (min s.size 8)

theorem keyD_bound (s : ByteArray) (m : Nat) : ∀ d, d ≤ 8 → 0 ≤ keyD s m d ∧ keyD s m d < 256 ^ d
  | 0, _ => by simp [keyD]
  | d + 1, h => by
    obtain ⟨h0, h1⟩ := keyD_bound s m d (by omega)
    have hp : (256 : Int) ^ d ≤ 72057594037927936 := by
      have : ∀ d : Nat, d < 8 → (256 : Int) ^ d ≤ 72057594037927936 := by decide +kernel
      exact this d (by omega)
    have b0 := by8_lo s (m - 1 - d)
    have b1 := by8_hi s (m - 1 - d)
    have a0 := lo8_lo b0 b1
    have a1 := lo8_hi b0 b1
    show 0 ≤ kstep _ _ ∧ kstep _ _ < 256 ^ (d + 1)
    rw [kstep_eq h0 (by omega) b0 b1, Int.pow_succ]
    constructor <;> omega

theorem keyD_step (s : ByteArray) (m d : Nat) (h : d < 8) : keyD s m (d + 1) = keyD s m d * 256 + lo8 (by8 s (m - 1 - d)) := by
  obtain ⟨h0, h1⟩ := keyD_bound s m d (by omega)
  have hp : (256 : Int) ^ d ≤ 72057594037927936 := by
    have : ∀ d : Nat, d < 8 → (256 : Int) ^ d ≤ 72057594037927936 := by decide +kernel
    exact this d h
  exact kstep_eq h0 (by omega) (by8_lo _ _) (by8_hi _ _)

/-- EQUAL KEYS: the bytes are equal but for the 0x20 bit -/
theorem keyD_inj (s t : ByteArray) (m : Nat) : ∀ d, d ≤ 8 → d ≤ m → (keyD s m d = keyD t m d ↔ ∀ i, m - d ≤ i → i < m → lo8 (by8 s i) = lo8 (by8 t i))
  | 0, _, _ => ⟨fun _ i h0 h1 => by omega, fun _ => rfl⟩
  | d + 1, h, hm => by
    have ih := keyD_inj s t m d (by omega) (by omega)
    rw [keyD_step s m d (by omega), keyD_step t m d (by omega)]
    have a0 := lo8_lo (by8_lo s (m - 1 - d)) (by8_hi s (m - 1 - d))
    have a1 := lo8_hi (by8_lo s (m - 1 - d)) (by8_hi s (m - 1 - d))
    have b0 := lo8_lo (by8_lo t (m - 1 - d)) (by8_hi t (m - 1 - d))
    have b1 := lo8_hi (by8_lo t (m - 1 - d)) (by8_hi t (m - 1 - d))
    constructor
    · intro e i h0 h1
      have e1 : keyD s m d = keyD t m d := by omega
      by_cases hi : i = m - 1 - d
      · subst hi; omega
      · exact ih.1 e1 i (by omega) h1
    · intro e
      have e1 := ih.2 (fun i h0 h1 => e i (by omega) h1)
      have e2 := e (m - 1 - d) (by omega) (by omega)
      omega

theorem keyOf_inj {s t : ByteArray} (h : s.size = t.size) : keyOf s = keyOf t ↔ ∀ i, i < s.size → i < 8 → lo8 (by8 s i) = lo8 (by8 t i) := by
  unfold keyOf
  rw [← h, keyD_inj s t _ _ (by omega) (Nat.le_refl _)]
  exact ⟨fun e i h0 h1 => e i (by omega) (by omega), fun e i h0 h1 => e i (by omega) (by omega)⟩

theorem keyOf_bound (s : ByteArray) : 0 ≤ keyOf s ∧ keyOf s < 18446744073709551616 := by
  obtain ⟨h0, h1⟩ := keyD_bound s (min s.size 8) (min s.size 8) (by omega)
  refine ⟨h0, ?_⟩
  have : ∀ d : Nat, d < 9 → (256 : Int) ^ d ≤ 18446744073709551616 := by decide +kernel
  have := this (min s.size 8) (by omega)
  unfold keyOf
  omega

theorem keyOf_ne {s : ByteArray} (h : 0 < s.size) : keyOf s ≠ 0 := by
  unfold keyOf
  obtain ⟨d, hd⟩ : ∃ d, min s.size 8 = d + 1 := ⟨min s.size 8 - 1, by omega⟩
  rw [hd, keyD_step _ _ _ (by omega)]
  obtain ⟨h0, _⟩ := keyD_bound s (d + 1) d (by omega)
  have a0 := lo8_lo (by8_lo s (d + 1 - 1 - d)) (by8_hi s (d + 1 - 1 - d))
  omega

set_option maxRecDepth 100000 in
set_option maxHeartbeats 400000 in
theorem key25 (s : ByteArray) (w : World) (hb : s.size ≤ 1048576) : Calls Tryd.prog 25 #[.string s] w fun e w' => e = .returned (.int .u64 (keyOf s)) ∧ w' = w := by
  obtain ⟨m, hm⟩ : ∃ m : Nat, min s.size 8 = m := ⟨_, rfl⟩
  have HK : Hid (keyOf s = keyD s m m) := by show _ = _; unfold keyOf; rw [hm]
  by_cases h8 : (8 : Int) < s.size
  · obtain rfl : m = 8 := by omega
    clear hm
    go_enter Tryd.func25, Tryd.ntmps25
    go_wp2
    go_loopg [3, 4] 8 (fun gk v3 v4 wr => ∃ d : Nat, d + gk = 8 ∧ v3 = .int .u64 (keyD s 8 d) ∧ v4 = .int .i64 (7 - (d : Int)) ∧ wr = w)
    case atStart => exact ⟨0, by omega, rfl, rfl, rfl⟩
    case round =>
      obtain ⟨d, hdk, rfl, rfl, hwr⟩ := hrel
      subst wr
      by_cases hd : d < 8
      · obtain ⟨j, hj⟩ : ∃ j : Nat, 7 - (d : Int) = j := ⟨7 - d, by omega⟩
        have hjs : j < s.size := by omega
        have hx := by8_eq hjs
        have hjI : (j : Int) < (s.size : Int) := by omega
        obtain ⟨q, rfl⟩ : ∃ q, gk = q + 1 := ⟨gk - 1, by omega⟩
        rw [hj]
        obtain ⟨kk, hkk⟩ : ∃ k, keyD s 8 d = k := ⟨_, rfl⟩
        rw [hkk]
        have HE : Hid (keyD s 8 (d + 1) = kstep kk (by8 s j)) := by show kstep (keyD s 8 d) (by8 s (8 - 1 - d)) = _; rw [hkk, show 8 - 1 - d = j by omega]
        have HJ : Hid (7 - (d : Int) = j) := hj
        clear hkk hj
        go_wp2
        go_roundg q
        case measure => omega
        case rel => exact ⟨d + 1, by omega, by rw [HE.out]; rfl, by have := HJ.out; go_num, rfl⟩
      · obtain rfl : d = 8 := by omega
        have hK := HK.out
        rw [← hK]
        clear hK
        go_wp2
        go_ret
        exact ⟨rfl, rfl⟩
  · obtain rfl : m = s.size := by omega
    have h8' : (s.size : Int) ≤ 8 := by omega
    clear hm h8
    go_enter Tryd.func25, Tryd.ntmps25
    go_wp2
    go_loopg [3, 4] s.size (fun gk v3 v4 wr => ∃ d : Nat, d + gk = s.size ∧ v3 = .int .u64 (keyD s s.size d) ∧ v4 = .int .i64 ((s.size : Int) - 1 - (d : Int)) ∧ wr = w)
    case atStart => exact ⟨0, by omega, rfl, by simp, rfl⟩
    case round =>
      obtain ⟨d, hdk, rfl, rfl, hwr⟩ := hrel
      subst wr
      by_cases hd : d < s.size
      · obtain ⟨j, hj⟩ : ∃ j : Nat, (s.size : Int) - 1 - (d : Int) = j := ⟨s.size - 1 - d, by omega⟩
        have hjs : j < s.size := by omega
        have hx := by8_eq hjs
        have hjI : (j : Int) < (s.size : Int) := by omega
        obtain ⟨q, rfl⟩ : ∃ q, gk = q + 1 := ⟨gk - 1, by omega⟩
        rw [hj]
        obtain ⟨kk, hkk⟩ : ∃ k, keyD s s.size d = k := ⟨_, rfl⟩
        rw [hkk]
        have HE : Hid (keyD s s.size (d + 1) = kstep kk (by8 s j)) := by show kstep (keyD s s.size d) (by8 s (s.size - 1 - d)) = _; rw [hkk, show s.size - 1 - d = j by omega]
        have HJ : Hid ((s.size : Int) - 1 - (d : Int) = j) := hj
        clear hkk hj
        go_wp2
        go_roundg q
        case measure => omega
        case rel => exact ⟨d + 1, by omega, by rw [HE.out]; rfl, by have := HJ.out; go_num, rfl⟩
      · obtain rfl : d = s.size := by omega
        have hneg : decide ((0 : Int) ≤ (s.size : Int) - 1 - (s.size : Int)) = false := by simp; omega
        have hK := HK.out
        rw [← hK]
        clear hK
        go_wp2
        go_ret
        exact ⟨rfl, rfl⟩

set_option maxRecDepth 100000 in
set_option maxHeartbeats 400000 in
theorem zkey10 (s : ByteArray) (w : World) (hb : s.size ≤ 1048576) : Calls Tryd.prog 10 #[.string s] w fun e w' => e = .returned (.int .u64 (keyOf s)) ∧ w' = w := by
  go_enter Tryd.func10, Tryd.ntmps10
  go_wp2_with (go_at_call 25; refine (key25 s w hb).mono ?_; rintro e w1 ⟨rfl, hw1⟩; subst w1)
  go_ret
  exact ⟨rfl, rfl⟩
end Go.Proofs.Qxb6604040aDoor
