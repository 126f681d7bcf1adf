import Derived.Test.Qxb6604017aRows
import Derived.WalkKit
import Derived.ProofKit
import Derived.OpenShut
import Derived.ShutString
import Derived.WalkSpells
import Derived.WalkLawsBesides
import Derived.Deep.QuietTactic
import Derived.BigQuiet
import Derived.PlainAid
import Derived.Deep.RegionWith
namespace Go.Proofs.Qxb6604017a
open Go.ChangeShapes Go.WideShapes Go.ChangeAt Go.RowKit

/-- The byte c stands somewhere in s. -/
def Has (s : ByteArray) (c : Nat) : Prop := ∃ k, ∃ h : k < s.size, (s[k]).toNat = c

set_option maxHeartbeats 400000 in
theorem hasByte_yes (s : ByteArray) (c : Nat) (w : World) (hs : s.size ≤ maxLen) (hno : Has s c) :
    Calls Try.prog 7 #[.string s, .int .u8 c] w fun e w' => e = .returned (.bool true) ∧ w' = w := by
  unfold maxLen at hs
  have HY : Hid (Has s c) := hno
  clear hno
  go_enter Try.func7, Try.ntmps7
  go_wp2
  go_loop [5] (fun i => ∃ k : Nat, k ≤ s.size ∧ i = .int .i64 k ∧ Hid (∀ j (h : j < s.size), j < k → s[j].toNat ≠ c)) (fun i => s.size - (intOf i).toNat)
  case atStart => exact ⟨0, Nat.zero_le _, rfl, fun j h hj => by omega⟩
  case round =>
    obtain ⟨k, hk, rfl, HN⟩ := hrel
    by_cases hlt : k < s.size
    · go_wp2
      · go_ret
        exact ⟨rfl, rfl⟩
      · go_round
        case rel =>
          have hne : ((s[k].toNat : Int) == (c : Int)) = false := by assumption
          refine ⟨k + 1, by omega, by go_num, fun j h hj => ?_⟩
          by_cases e : j = k
          · subst e; intro hc; simp at hne; omega
          · exact HN.out j h (by omega)
        case measure => simp [intOf]; omega
    · exfalso
      obtain ⟨j, h, hj⟩ := HY.out
      exact HN.out j h (by omega) hj

set_option maxHeartbeats 400000 in
theorem hasByte_no (s : ByteArray) (c : Nat) (w : World) (hs : s.size ≤ maxLen) (hno : ¬ Has s c) :
    Calls Try.prog 7 #[.string s, .int .u8 c] w fun e w' => e = .returned (.bool false) ∧ w' = w := by
  unfold maxLen at hs
  have HY : Hid (¬ Has s c) := hno
  clear hno
  go_enter Try.func7, Try.ntmps7
  go_wp2
  go_loop [5] (fun i => ∃ k : Nat, k ≤ s.size ∧ i = .int .i64 k) (fun i => s.size - (intOf i).toNat)
  case atStart => exact ⟨0, Nat.zero_le _, rfl⟩
  case round =>
    obtain ⟨k, hk, rfl⟩ := hrel
    by_cases hlt : k < s.size
    · have hne : ((s[k].toNat : Int) == (c : Int)) = false := by
        have := fun e => HY.out ⟨k, hlt, e⟩
        simp only [beq_eq_false_iff_ne, ne_eq]; intro hc; exact this (by omega)
      go_wp2
      go_round
      case rel => exact ⟨k + 1, by omega, by go_num⟩
      case measure => simp [intOf]; omega
    · go_wp2
      go_ret
      exact ⟨rfl, rfl⟩

/-! parseKind, at the three texts that String makes -/

/-- Before place i stands neither ':' nor '#'. -/
def Clear (s : ByteArray) (i : Nat) : Prop := ∀ j (h : j < s.size), j < i → s[j].toNat ≠ 58 ∧ s[j].toNat ≠ 35

set_option maxHeartbeats 400000 in
theorem parse_plain (s : ByteArray) (w : World) (hs : s.size ≤ maxLen) (hc : Clear s s.size) :
    Calls Try.prog 18 #[.string s] w fun e w' => e = .returned (.tuple #[.string s, .bool false, .string ⟨#[]⟩, .bool true]) ∧ w' = w := by
  unfold maxLen at hs
  have HC : Hid (Clear s s.size) := hc
  clear hc
  go_enter Try.func18, Try.ntmps18
  go_wp2
  go_loop [6] (fun i => ∃ k : Nat, k ≤ s.size ∧ i = .int .i64 k) (fun i => s.size - (intOf i).toNat)
  case atStart => exact ⟨0, Nat.zero_le _, rfl⟩
  case round =>
    obtain ⟨k, hk, rfl⟩ := hrel
    by_cases hlt : k < s.size
    · have hne : ((s[k].toNat : Int) != 58) = true := by
        have := HC.out k hlt hlt
        simp; omega
      have hne2 : ((s[k].toNat : Int) != 35) = true := by
        have := HC.out k hlt hlt
        simp; omega
      go_wp2
      go_round
      case rel => exact ⟨k + 1, by omega, by go_num⟩
      case measure => simp [intOf]; omega
    · have hke : ((k : Int) == (s.size : Int)) = true := by simp; omega
      go_wp2
      exact bodyPost_ret (v := .tuple #[.string s, .bool false, .string ⟨#[]⟩, .bool true]) (by simp [results, Try.results18, go_sem]) rfl ⟨rfl, rfl⟩

set_option maxHeartbeats 400000 in
theorem parse_wild (s : ByteArray) (i : Nat) (w : World) (hs : s.size ≤ maxLen) (hc : Clear s i) (hi : i < s.size) (h1 : s[i].toNat = 58) (h2 : ((s.extract i s.size).toList == [58, 42]) = true) :
    Calls Try.prog 18 #[.string s] w fun e w' => e = .returned (.tuple #[.string (s.extract 0 i), .bool true, .string ⟨#[]⟩, .bool true]) ∧ w' = w := by
  unfold maxLen at hs
  have HC : Hid (Clear s i) := hc
  have H1 : Hid (s[i].toNat = 58) := h1
  clear hc h1
  go_enter Try.func18, Try.ntmps18
  go_wp2
  go_loop [6] (fun t => ∃ k : Nat, k ≤ i ∧ t = .int .i64 k) (fun t => s.size - (intOf t).toNat)
  case atStart => exact ⟨0, Nat.zero_le _, rfl⟩
  case round =>
    obtain ⟨k, hk, rfl⟩ := hrel
    have hlt : k < s.size := by omega
    by_cases hki : k < i
    · have hne : ((s[k].toNat : Int) != 58) = true := by
        have := HC.out k hlt hki
        simp; omega
      have hne2 : ((s[k].toNat : Int) != 35) = true := by
        have := HC.out k hlt hki
        simp; omega
      go_wp2
      go_round
      case rel => exact ⟨k + 1, by omega, by go_num⟩
      case measure => simp [intOf]; omega
    · obtain rfl : k = i := by omega
      have hne : ((s[k].toNat : Int) != 58) = false := by rw [H1.out]; rfl
      have hne' : ((s[k].toNat : Int) == 58) = true := by rw [H1.out]; rfl
      have hke : ((k : Int) == (s.size : Int)) = false := by simp; omega
      go_wp2
      exact bodyPost_ret (v := .tuple #[.string (s.extract 0 k), .bool true, .string ⟨#[]⟩, .bool true]) (by simp [results, Try.results18, go_sem]) rfl ⟨rfl, rfl⟩

set_option maxHeartbeats 400000 in
theorem parse_rel (s : ByteArray) (i : Nat) (w : World) (hs : s.size ≤ maxLen) (hc : Clear s i) (hi : i + 1 < s.size) (h1 : s[i].toNat = 35) :
    Calls Try.prog 18 #[.string s] w fun e w' => e = .returned (.tuple #[.string (s.extract 0 i), .bool false, .string (s.extract (i + 1) s.size), .bool true]) ∧ ∃ n, w' = w.drewN n := by
  unfold maxLen at hs
  have HC : Hid (Clear s i) := hc
  have H1 : Hid (s[i].toNat = 35) := h1
  clear hc h1
  go_enter Try.func18, Try.ntmps18
  go_wp2
  go_loop [6] (fun t => ∃ k : Nat, k ≤ i ∧ t = .int .i64 k) (fun t => s.size - (intOf t).toNat)
  case atStart => exact ⟨0, Nat.zero_le _, rfl⟩
  case round =>
    obtain ⟨k, hk, rfl⟩ := hrel
    have hlt : k < s.size := by omega
    by_cases hki : k < i
    · have hne : ((s[k].toNat : Int) != 58) = true := by
        have := HC.out k hlt hki
        simp; omega
      have hne2 : ((s[k].toNat : Int) != 35) = true := by
        have := HC.out k hlt hki
        simp; omega
      go_wp2
      go_round
      case rel => exact ⟨k + 1, by omega, by go_num⟩
      case measure => simp [intOf]; omega
    · obtain rfl : k = i := by omega
      have hne : ((s[k].toNat : Int) != 58) = true := by rw [H1.out]; rfl
      have hne' : ((s[k].toNat : Int) == 58) = false := by rw [H1.out]; rfl
      have hne2 : ((s[k].toNat : Int) != 35) = false := by rw [H1.out]; rfl
      have hke : ((k : Int) == (s.size : Int)) = false := by simp; omega
      go_wp2
      go_quiet (fail)
      go_wp2
      exact bodyPost_ret (v := .tuple #[.string (s.extract 0 k), .bool false, .string (s.extract (k + 1) s.size), .bool true]) (by simp [results, Try.results18, go_sem]) rfl ⟨rfl, _, rfl⟩

set_option maxHeartbeats 400000 in
theorem string_wild (t r : ByteArray) (w : World) (ht : t.size ≤ 1048576) :
    Calls Try.prog 8 #[.agg #[.string t, .bool true, .string r]] w fun e w' => e = .returned (.string (t ++ ⟨#[58]⟩ ++ ⟨#[42]⟩)) ∧ Grown w w' := by
  go_enter Try.func8, Try.ntmps8
  go_wp2
  go_ret
  exact ⟨rfl, by repeat (first | exact Grown.refl _ | apply Grown.drew | apply Grown.alloc)⟩

set_option maxHeartbeats 400000 in
theorem string_rel (t r : ByteArray) (w : World) (ht : t.size ≤ 1048576) (hr : r.size ≤ 1048576) (hne : r.toList.isEmpty = false) :
    Calls Try.prog 8 #[.agg #[.string t, .bool false, .string r]] w fun e w' => e = .returned (.string (t ++ ⟨#[35]⟩ ++ r)) ∧ Grown w w' := by
  go_enter Try.func8, Try.ntmps8
  go_wp2
  go_ret
  exact ⟨rfl, by repeat (first | exact Grown.refl _ | apply Grown.drew | apply Grown.alloc)⟩

set_option maxHeartbeats 400000 in
theorem string_plain (t r : ByteArray) (w : World) (hne : r.toList.isEmpty = true) :
    Calls Try.prog 8 #[.agg #[.string t, .bool false, .string r]] w fun e w' => e = .returned (.string t) ∧ Grown w w' := by
  go_enter Try.func8, Try.ntmps8
  go_wp2
  go_ret
  exact ⟨rfl, by repeat (first | exact Grown.refl _ | apply Grown.drew | apply Grown.alloc)⟩

theorem grown_trans {a b c : World} (h : Grown a b) (k : Grown b c) : Grown a c := by
  refine ⟨World.keptBut_trans h.1 k.1, fun x => (k.2.1 x).trans (h.2.1 x), Nat.le_trans h.2.2 k.2.2⟩

theorem grown_drewN {a b : World} (h : Grown a b) (n : Nat) : Grown a (b.drewN n) := by
  induction n with
  | zero => exact h
  | succ n ih => exact Grown.drew ih

/-- kindIs, given that parseKind reads the very kind. -/
theorem kindIs_wild (s t r : ByteArray) (w : World) (hp : ∀ W, Calls Try.prog 18 #[.string s] W fun e w' => e = .returned (.tuple #[.string t, .bool true, .string ⟨#[]⟩, .bool true]) ∧ ∃ n, w' = W.drewN n) :
    Calls Try.prog 9 #[.string s, .agg #[.string t, .bool true, .string r]] w fun e w' => e = .returned (.bool true) ∧ Grown w w' := by
  have HP : Hid (∀ W, Calls Try.prog 18 #[.string s] W fun e w' => e = .returned (.tuple #[.string t, .bool true, .string ⟨#[]⟩, .bool true]) ∧ ∃ n, w' = W.drewN n) := hp
  clear hp
  go_enter Try.func9, Try.ntmps9
  go_wp2_with (go_at_call 18; refine (HP.out _).mono ?_; rintro e w' ⟨rfl, n, rfl⟩)
  go_ret
  exact ⟨rfl, by repeat (first | exact Grown.refl _ | apply grown_drewN | apply Grown.drew | apply Grown.alloc)⟩

theorem kindIs_plain (s t r : ByteArray) (w : World) (hp : ∀ W, Calls Try.prog 18 #[.string s] W fun e w' => e = .returned (.tuple #[.string t, .bool false, .string r, .bool true]) ∧ ∃ n, w' = W.drewN n) :
    Calls Try.prog 9 #[.string s, .agg #[.string t, .bool false, .string r]] w fun e w' => e = .returned (.bool true) ∧ Grown w w' := by
  have HP : Hid (∀ W, Calls Try.prog 18 #[.string s] W fun e w' => e = .returned (.tuple #[.string t, .bool false, .string r, .bool true]) ∧ ∃ n, w' = W.drewN n) := hp
  clear hp
  go_enter Try.func9, Try.ntmps9
  go_wp2_with (go_at_call 18; refine (HP.out _).mono ?_; rintro e w' ⟨rfl, n, rfl⟩)
  go_ret
  exact ⟨rfl, by repeat (first | exact Grown.refl _ | apply grown_drewN | apply Grown.drew | apply Grown.alloc)⟩

/-! The three texts -/
theorem ext_left (a b : ByteArray) : (a ++ b).extract 0 a.size = a := ByteArray.extract_append_eq_left rfl

theorem get_left (a b : ByteArray) (i : Nat) (h : i < a.size) (h' : i < (a ++ b).size) : (a ++ b)[i]'h' = a[i] := ByteArray.getElem_append_left h

theorem clear_of (t : ByteArray) (h1 : ¬ Has t 58) (h2 : ¬ Has t 35) : Clear t t.size :=
  fun j h _ => ⟨fun e => h1 ⟨j, h, e⟩, fun e => h2 ⟨j, h, e⟩⟩

theorem clear_app (t x : ByteArray) (h : Clear t t.size) : Clear (t ++ x) t.size := by
  intro j hj hlt
  rw [get_left t x j hlt hj]
  exact h j hlt hlt

theorem isEmpty_eq {r : ByteArray} (h : r.toList.isEmpty = true) : r = ⟨#[]⟩ := by
  have : r.data.toList = [] := by
    rw [ByteArray.toList_eq] at h
    simpa using h
  cases r with
  | mk d => cases d with
    | mk l => simp at this; subst this; rfl

theorem not_isEmpty {r : ByteArray} (h : r.toList.isEmpty = false) : 0 < r.size := by
  rw [ByteArray.toList_eq] at h
  cases r with
  | mk d => cases d with
    | mk l => cases l with
      | nil => simp at h
      | cons a l => show 0 < (a :: l).length; simp

theorem read_plain (t : ByteArray) (ht : t.size ≤ 1048576) (hc : Clear t t.size) (W : World) :
    Calls Try.prog 18 #[.string t] W fun e w' => e = .returned (.tuple #[.string t, .bool false, .string ⟨#[]⟩, .bool true]) ∧ ∃ n, w' = W.drewN n :=
  (parse_plain t W (by unfold maxLen; omega) hc).mono fun e w' ⟨h, hw⟩ => ⟨h, 0, hw⟩

theorem read_wild (t : ByteArray) (ht : t.size ≤ 1048576) (hc : Clear t t.size) (W : World) :
    Calls Try.prog 18 #[.string (t ++ ⟨#[58]⟩ ++ ⟨#[42]⟩)] W fun e w' => e = .returned (.tuple #[.string t, .bool true, .string ⟨#[]⟩, .bool true]) ∧ ∃ n, w' = W.drewN n := by
  have e : t ++ ⟨#[58]⟩ ++ ⟨#[42]⟩ = t ++ ⟨#[58, 42]⟩ := by rw [ByteArray.append_assoc]; rfl
  rw [e]
  have hsz : (t ++ ⟨#[58, 42]⟩ : ByteArray).size = t.size + 2 := by rw [ByteArray.size_append]; rfl
  have hi : t.size < (t ++ ⟨#[58, 42]⟩ : ByteArray).size := by omega
  have hx : (t ++ ⟨#[58, 42]⟩ : ByteArray).extract t.size (t ++ ⟨#[58, 42]⟩ : ByteArray).size = ⟨#[58, 42]⟩ :=
    ByteArray.extract_append_eq_right rfl (by rw [ByteArray.size_append])
  have hg : (t ++ ⟨#[58, 42]⟩ : ByteArray)[t.size]'hi = 58 := by
    rw [ByteArray.getElem_append_right (Nat.le_refl _)]
    simp only [Nat.sub_self]; rfl
  have h := parse_wild (t ++ ⟨#[58, 42]⟩) t.size W (by unfold maxLen; omega) (clear_app t _ hc) hi (by rw [hg]; rfl) (by rw [hx]; simp [ByteArray.toList_eq])
  rw [ext_left] at h
  exact h.mono fun e w' ⟨h, hw⟩ => ⟨h, 0, hw⟩

theorem read_rel (t r : ByteArray) (ht : t.size ≤ 1048576) (hr : r.size ≤ 1048576) (hr0 : 0 < r.size) (hc : Clear t t.size) (W : World) :
    Calls Try.prog 18 #[.string (t ++ ⟨#[35]⟩ ++ r)] W fun e w' => e = .returned (.tuple #[.string t, .bool false, .string r, .bool true]) ∧ ∃ n, w' = W.drewN n := by
  have hs1 : (t ++ ⟨#[35]⟩ : ByteArray).size = t.size + 1 := by rw [ByteArray.size_append]; rfl
  have hsz : (t ++ ⟨#[35]⟩ ++ r : ByteArray).size = t.size + 1 + r.size := by rw [ByteArray.size_append, hs1]
  have hi : t.size < (t ++ ⟨#[35]⟩ ++ r : ByteArray).size := by omega
  have hx : (t ++ ⟨#[35]⟩ ++ r : ByteArray).extract (t.size + 1) (t ++ ⟨#[35]⟩ ++ r : ByteArray).size = r :=
    ByteArray.extract_append_eq_right hs1.symm (by rw [ByteArray.size_append])
  have hl : (t ++ ⟨#[35]⟩ ++ r : ByteArray).extract 0 t.size = t := by
    rw [ByteArray.append_assoc]; exact ext_left t _
  have hg : (t ++ ⟨#[35]⟩ ++ r : ByteArray)[t.size]'hi = 35 := by
    rw [get_left (t ++ ⟨#[35]⟩) r t.size (by omega) hi]
    rw [ByteArray.getElem_append_right (Nat.le_refl _)]
    simp only [Nat.sub_self]; rfl
  have hcl : Clear (t ++ ⟨#[35]⟩ ++ r) t.size := by
    rw [ByteArray.append_assoc]; exact clear_app t _ hc
  have h := parse_rel (t ++ ⟨#[35]⟩ ++ r) t.size W (by unfold maxLen; omega) hcl (by omega) (by rw [hg]; rfl)
  rw [hx, hl] at h
  exact h

set_option maxHeartbeats 1000000 in
theorem walk_has1 (a0 : ByteArray) (a1 : Bool) (a2 : ByteArray) (g3 : a0.size + a2.size ≤ 1048576) (g4 : a0.size ≤ 524288) (g5 : a2.size ≤ 524288) (w : World) (h1 : Has a0 58) :
    Calls Try.prog 3 #[.string a0, .bool a1, .string a2] w fun e w' => e = .returned (.bool true) ∧ Grown w w' := by
  have HH : Hid (Has a0 58) := h1
  have hm : a0.size ≤ maxLen := by unfold maxLen; omega
  clear h1
  go_enter Try.func3, Try.ntmps3
  go_wp2_with (first | (go_at_call 7; refine (hasByte_yes a0 58 _ hm HH.out).mono ?_; rintro e w' ⟨rfl, rfl⟩) | go_in)
  go_ret
  exact ⟨rfl, by repeat (first | exact Grown.refl _ | apply Grown.drew | apply Grown.alloc)⟩

set_option maxHeartbeats 1000000 in
theorem walk_has2 (a0 : ByteArray) (a1 : Bool) (a2 : ByteArray) (g3 : a0.size + a2.size ≤ 1048576) (g4 : a0.size ≤ 524288) (g5 : a2.size ≤ 524288) (w : World) (h1 : ¬ Has a0 58) (h2 : Has a0 35) :
    Calls Try.prog 3 #[.string a0, .bool a1, .string a2] w fun e w' => e = .returned (.bool true) ∧ Grown w w' := by
  have HH : Hid (¬ Has a0 58) := h1
  have H2 : Hid (Has a0 35) := h2
  have hm : a0.size ≤ maxLen := by unfold maxLen; omega
  clear h1 h2
  have c1 : ∀ W, Calls Try.prog 7 #[.string a0, .int .u8 58] W fun e w' => e = .returned (.bool false) ∧ w' = W := fun W => hasByte_no a0 58 W hm HH.out
  have c2 : ∀ W, Calls Try.prog 7 #[.string a0, .int .u8 35] W fun e w' => e = .returned (.bool true) ∧ w' = W := fun W => hasByte_yes a0 35 W hm H2.out
  have C1 : Hid _ := c1
  have C2 : Hid _ := c2
  clear c1 c2
  go_enter Try.func3, Try.ntmps3
  go_wp2_with (first | (go_at_call_of 7 (Value.int IntKind.u8 58); refine (C1.out _).mono ?_; rintro e w' ⟨rfl, rfl⟩) | (go_at_call_of 7 (Value.int IntKind.u8 35); refine (C2.out _).mono ?_; rintro e w' ⟨rfl, rfl⟩) | go_in)
  go_ret
  exact ⟨rfl, by repeat (first | exact Grown.refl _ | apply Grown.drew | apply Grown.alloc)⟩

set_option maxHeartbeats 1000000 in
theorem walk_wild (a0 : ByteArray) (a2 : ByteArray) (g3 : a0.size + a2.size ≤ 1048576) (g4 : a0.size ≤ 524288) (g5 : a2.size ≤ 524288) (w : World) (h1 : ¬ Has a0 58) (h2 : ¬ Has a0 35) :
    Calls Try.prog 3 #[.string a0, .bool true, .string a2] w fun e w' => e = .returned (.bool true) ∧ Grown w w' := by
  have hm : a0.size ≤ maxLen := by unfold maxLen; omega
  have C1 : Hid (∀ W, Calls Try.prog 7 #[.string a0, .int .u8 58] W fun e w' => e = .returned (.bool false) ∧ w' = W) := fun W => hasByte_no a0 58 W hm h1
  have C2 : Hid (∀ W, Calls Try.prog 7 #[.string a0, .int .u8 35] W fun e w' => e = .returned (.bool false) ∧ w' = W) := fun W => hasByte_no a0 35 W hm h2
  have C3 : Hid (∀ W, Calls Try.prog 8 #[.agg #[.string a0, .bool true, .string a2]] W fun e w' => e = .returned (.string (a0 ++ ⟨#[58]⟩ ++ ⟨#[42]⟩)) ∧ Grown W w') := fun W => string_wild a0 a2 W (by omega)
  have C4 : Hid (∀ W, Calls Try.prog 9 #[.string (a0 ++ ⟨#[58]⟩ ++ ⟨#[42]⟩), .agg #[.string a0, .bool true, .string a2]] W fun e w' => e = .returned (.bool true) ∧ Grown W w') := fun W => kindIs_wild _ a0 a2 W (read_wild a0 (by omega) (clear_of a0 h1 h2))
  clear h1 h2
  go_enter Try.func3, Try.ntmps3
  go_wp2_with (first | (go_at_call_of 7 (Value.int IntKind.u8 58); refine (C1.out _).mono ?_; rintro e w' ⟨rfl, rfl⟩) | (go_at_call_of 7 (Value.int IntKind.u8 35); refine (C2.out _).mono ?_; rintro e w' ⟨rfl, rfl⟩) | (go_at_call 8; refine (C3.out _).mono ?_; rintro e w1 ⟨rfl, G1⟩) | (go_at_call 9; refine (C4.out _).mono ?_; rintro e w2 ⟨rfl, G2⟩) | go_in)
  go_ret
  exact ⟨rfl, grown_trans G1 G2⟩

set_option maxHeartbeats 1000000 in
theorem walk_rel (a0 : ByteArray) (a2 : ByteArray) (g3 : a0.size + a2.size ≤ 1048576) (g4 : a0.size ≤ 524288) (g5 : a2.size ≤ 524288) (w : World) (h1 : ¬ Has a0 58) (h2 : ¬ Has a0 35) (h3 : a2.toList.isEmpty = false) :
    Calls Try.prog 3 #[.string a0, .bool false, .string a2] w fun e w' => e = .returned (.bool true) ∧ Grown w w' := by
  have hm : a0.size ≤ maxLen := by unfold maxLen; omega
  have C1 : Hid (∀ W, Calls Try.prog 7 #[.string a0, .int .u8 58] W fun e w' => e = .returned (.bool false) ∧ w' = W) := fun W => hasByte_no a0 58 W hm h1
  have C2 : Hid (∀ W, Calls Try.prog 7 #[.string a0, .int .u8 35] W fun e w' => e = .returned (.bool false) ∧ w' = W) := fun W => hasByte_no a0 35 W hm h2
  have C3 : Hid (∀ W, Calls Try.prog 8 #[.agg #[.string a0, .bool false, .string a2]] W fun e w' => e = .returned (.string (a0 ++ ⟨#[35]⟩ ++ a2)) ∧ Grown W w') := fun W => string_rel a0 a2 W (by omega) (by omega) h3
  have C4 : Hid (∀ W, Calls Try.prog 9 #[.string (a0 ++ ⟨#[35]⟩ ++ a2), .agg #[.string a0, .bool false, .string a2]] W fun e w' => e = .returned (.bool true) ∧ Grown W w') := fun W => kindIs_plain _ a0 a2 W (read_rel a0 a2 (by omega) (by omega) (not_isEmpty h3) (clear_of a0 h1 h2))
  clear h1 h2 h3
  go_enter Try.func3, Try.ntmps3
  go_wp2_with (first | (go_at_call_of 7 (Value.int IntKind.u8 58); refine (C1.out _).mono ?_; rintro e w' ⟨rfl, rfl⟩) | (go_at_call_of 7 (Value.int IntKind.u8 35); refine (C2.out _).mono ?_; rintro e w' ⟨rfl, rfl⟩) | (go_at_call 8; refine (C3.out _).mono ?_; rintro e w1 ⟨rfl, G1⟩) | (go_at_call 9; refine (C4.out _).mono ?_; rintro e w2 ⟨rfl, G2⟩) | go_in)
  go_ret
  exact ⟨rfl, grown_trans G1 G2⟩

set_option maxHeartbeats 1000000 in
theorem walk_plain (a0 : ByteArray) (a2 : ByteArray) (g3 : a0.size + a2.size ≤ 1048576) (g4 : a0.size ≤ 524288) (g5 : a2.size ≤ 524288) (w : World) (h1 : ¬ Has a0 58) (h2 : ¬ Has a0 35) (h3 : a2.toList.isEmpty = true) :
    Calls Try.prog 3 #[.string a0, .bool false, .string a2] w fun e w' => e = .returned (.bool true) ∧ Grown w w' := by
  have hm : a0.size ≤ maxLen := by unfold maxLen; omega
  have C1 : Hid (∀ W, Calls Try.prog 7 #[.string a0, .int .u8 58] W fun e w' => e = .returned (.bool false) ∧ w' = W) := fun W => hasByte_no a0 58 W hm h1
  have C2 : Hid (∀ W, Calls Try.prog 7 #[.string a0, .int .u8 35] W fun e w' => e = .returned (.bool false) ∧ w' = W) := fun W => hasByte_no a0 35 W hm h2
  have C3 : Hid (∀ W, Calls Try.prog 8 #[.agg #[.string a0, .bool false, .string a2]] W fun e w' => e = .returned (.string (a0)) ∧ Grown W w') := fun W => string_plain a0 a2 W h3
  have C4 : Hid (∀ W, Calls Try.prog 9 #[.string (a0), .agg #[.string a0, .bool false, .string a2]] W fun e w' => e = .returned (.bool true) ∧ Grown W w') := fun W => kindIs_plain _ a0 a2 W (by rw [isEmpty_eq h3]; exact read_plain a0 (by omega) (clear_of a0 h1 h2))
  clear h1 h2 h3
  go_enter Try.func3, Try.ntmps3
  go_wp2_with (first | (go_at_call_of 7 (Value.int IntKind.u8 58); refine (C1.out _).mono ?_; rintro e w' ⟨rfl, rfl⟩) | (go_at_call_of 7 (Value.int IntKind.u8 35); refine (C2.out _).mono ?_; rintro e w' ⟨rfl, rfl⟩) | (go_at_call 8; refine (C3.out _).mono ?_; rintro e w1 ⟨rfl, G1⟩) | (go_at_call 9; refine (C4.out _).mono ?_; rintro e w2 ⟨rfl, G2⟩) | go_in)
  go_ret
  exact ⟨rfl, grown_trans G1 G2⟩

set_option maxHeartbeats 1000000 in
theorem walk_big1 (a0 : ByteArray) (a1 : Bool) (a2 : ByteArray) (w : World) (g : 1048576 < (a0.size : Int)) :
    Calls Try.prog 3 #[.string a0, .bool a1, .string a2] w fun e w' => e = .returned (.bool true) ∧ Grown w w' := by
  go_enter Try.func3, Try.ntmps3
  go_wp2
  go_ret
  exact ⟨rfl, by repeat (first | exact Grown.refl _ | apply Grown.drew | apply Grown.alloc)⟩

set_option maxHeartbeats 1000000 in
theorem walk_big2 (a0 : ByteArray) (a1 : Bool) (a2 : ByteArray) (w : World) (g1 : ¬ 1048576 < (a0.size : Int)) (g : 1048576 < (a2.size : Int)) :
    Calls Try.prog 3 #[.string a0, .bool a1, .string a2] w fun e w' => e = .returned (.bool true) ∧ Grown w w' := by
  go_enter Try.func3, Try.ntmps3
  go_wp2
  go_ret
  exact ⟨rfl, by repeat (first | exact Grown.refl _ | apply Grown.drew | apply Grown.alloc)⟩

set_option maxHeartbeats 1000000 in
theorem walk_big3 (a0 : ByteArray) (a1 : Bool) (a2 : ByteArray) (w : World) (g1 : ¬ 1048576 < (a0.size : Int)) (g2 : ¬ 1048576 < (a2.size : Int)) (g : 1048576 < (a0.size : Int) + (a2.size : Int)) :
    Calls Try.prog 3 #[.string a0, .bool a1, .string a2] w fun e w' => e = .returned (.bool true) ∧ Grown w w' := by
  go_enter Try.func3, Try.ntmps3
  go_wp2
  go_ret
  exact ⟨rfl, by repeat (first | exact Grown.refl _ | apply Grown.drew | apply Grown.alloc)⟩

set_option maxHeartbeats 1000000 in
theorem walk_big4 (a0 : ByteArray) (a1 : Bool) (a2 : ByteArray) (w : World) (g : (a0.size : Int) + (a2.size : Int) ≤ 1048576) (g1 : 524288 < (a0.size : Int)) :
    Calls Try.prog 3 #[.string a0, .bool a1, .string a2] w fun e w' => e = .returned (.bool true) ∧ Grown w w' := by
  go_enter Try.func3, Try.ntmps3
  go_wp2
  go_ret
  exact ⟨rfl, by repeat (first | exact Grown.refl _ | apply Grown.drew | apply Grown.alloc)⟩

set_option maxHeartbeats 1000000 in
theorem walk_big5 (a0 : ByteArray) (a1 : Bool) (a2 : ByteArray) (w : World) (g : (a0.size : Int) + (a2.size : Int) ≤ 1048576) (g1 : ¬ 524288 < (a0.size : Int)) (g2 : 524288 < (a2.size : Int)) :
    Calls Try.prog 3 #[.string a0, .bool a1, .string a2] w fun e w' => e = .returned (.bool true) ∧ Grown w w' := by
  go_enter Try.func3, Try.ntmps3
  go_wp2
  go_ret
  exact ⟨rfl, by repeat (first | exact Grown.refl _ | apply Grown.drew | apply Grown.alloc)⟩

theorem walk (a0 : ByteArray) (a1 : Bool) (a2 : ByteArray) (w : World) :
    Calls Try.prog 3 #[.string a0, .bool a1, .string a2] w fun e w' => e = .returned (.bool true) ∧ Grown w w' := by
  by_cases g1 : 1048576 < (a0.size : Int)
  · exact walk_big1 a0 a1 a2 w g1
  by_cases g2 : 1048576 < (a2.size : Int)
  · exact walk_big2 a0 a1 a2 w g1 g2
  by_cases g3 : 1048576 < (a0.size : Int) + (a2.size : Int)
  · exact walk_big3 a0 a1 a2 w g1 g2 g3
  by_cases g4 : 524288 < (a0.size : Int)
  · exact walk_big4 a0 a1 a2 w (by omega) g4
  by_cases g5 : 524288 < (a2.size : Int)
  · exact walk_big5 a0 a1 a2 w (by omega) g4 g5
  by_cases h1 : Has a0 58
  · exact walk_has1 a0 a1 a2 (by omega) (by omega) (by omega) w h1
  by_cases h2 : Has a0 35
  · exact walk_has2 a0 a1 a2 (by omega) (by omega) (by omega) w h1 h2
  cases a1 with
  | true => exact walk_wild a0 a2 (by omega) (by omega) (by omega) w h1 h2
  | false =>
    cases h3 : a2.toList.isEmpty with
    | true => exact walk_plain a0 a2 (by omega) (by omega) (by omega) w h1 h2 h3
    | false => exact walk_rel a0 a2 (by omega) (by omega) (by omega) w h1 h2 h3

end Go.Proofs.Qxb6604017a
