import Derived.Test.Qxb6604178aDoorRows
import Derived.Test.Qxb6604178aDoorPlain
import Derived.Test.Qxb6604178aDoorShelf
import Derived.WalkKit
import Derived.WalkSpells
import Derived.WalkLawsBesides
import Derived.WalkSmall
import Derived.Lib.LaidTab
namespace Go.Proofs.Qxb6604178aDoor
open Go.RowKit

def strOf (n : Int) : ByteArray := ⟨(txt n).toArray⟩

theorem below_grow (w : World) (k : Nat) (os : Array Obj) : Below w.heap.size w (Sort.grow (w.drewN k) os) :=
  ⟨rfl, rfl, rfl, by simp [Sort.grow], fun i hi => by simp [Sort.grow, Array.getElem?_append, hi]⟩

theorem tab_below {w w' : World} {name : String} {k : IntKind} {zs : List Int} {g : Nat} (hg : Tryd.prog.globalNamed name = some g) (hgl : g < w.heap.size) (h : Lib.TabIs Tryd.prog w name k zs) (b : Below w.heap.size w w') : Lib.TabIs Tryd.prog w' name k zs := by
  unfold Lib.TabIs at *
  rw [← h]
  simp only [World.var?, hg, Option.bind_some, b.block g hgl]

theorem lit_eq (l : List UInt8) (a : Array UInt8) (h : a.toList = l) : (⟨a⟩ : ByteArray) = ⟨l.toArray⟩ := by rw [← h]

set_option maxHeartbeats 400000 in
theorem string_small (n : Int) (hn : n = 0 ∨ n = 1 ∨ n = 2 ∨ n = 3) (w : World) :
    Calls Tryd.prog 4 #[.int .i64 n] w fun e w' => e = .returned (.string (strOf n)) ∧ Below w.heap.size w w' := by
  rcases hn with rfl | rfl | rfl | rfl
  all_goals
    go_enter Tryd.func4, Tryd.ntmps4
    go_wp2
    go_ret
    exact ⟨rfl, Below.refl _ _⟩

theorem str_big (n : Int) (b0 : n ≠ 0) (b1 : n ≠ 1) (b2 : n ≠ 2) (b3 : n ≠ 3) : (⟨#[68, 101, 108, 116, 97, 84, 83, 111, 117, 114, 99, 101, 40]⟩ : ByteArray) ++ ⟨(Lib.itoa n).toArray⟩ ++ ⟨#[41]⟩ = strOf n := by
  unfold strOf txt
  rw [if_neg b0, if_neg b1, if_neg b2, if_neg b3]
  have e1 : (⟨#[68, 101, 108, 116, 97, 84, 83, 111, 117, 114, 99, 101, 40]⟩ : ByteArray) = ByteArray.mk ([68, 101, 108, 116, 97, 84, 83, 111, 117, 114, 99, 101, 40] : List UInt8).toArray := rfl
  have e2 : (⟨#[41]⟩ : ByteArray) = ByteArray.mk ([41] : List UInt8).toArray := rfl
  rw [e1, e2, ByteArray.mk_append_mk, ByteArray.mk_append_mk]

set_option maxHeartbeats 400000 in
theorem string_big (n : Int) (h0 : -9223372036854775808 ≤ n) (h1 : n ≤ 9223372036854775807) (b0 : (n == 0) = false) (b1 : (n == 1) = false) (b2 : (n == 2) = false) (b3 : (n == 3) = false) (w : World) (htab : Lib.TabIs Tryd.prog w powName .u64 Lib.pow10Tab) :
    Calls Tryd.prog 4 #[.int .i64 n] w fun e w' => e = .returned (.string (strOf n)) ∧ Below w.heap.size w w' := by
  have hl := Lib.itoa_length_le n h0 h1
  obtain ⟨t, ht⟩ : ∃ t : ByteArray, t = ⟨(Lib.itoa n).toArray⟩ := ⟨_, rfl⟩
  have hts : t.size ≤ 21 := by rw [ht]; simpa [ByteArray.size] using hl
  have HT : Hid (t = ⟨(Lib.itoa n).toArray⟩) := ht
  have HC : Hid (Calls Tryd.prog 5 #[.int .i64 n] w fun e w' => e = .returned (.string t) ∧ ∃ k os, w' = Sort.grow (w.drewN k) os) := by
    have := Tryd.strconv_Itoa n h0 h1 w htab
    rw [← ht] at this
    exact this
  clear ht hl htab h0 h1
  go_enter Tryd.func4, Tryd.ntmps4
  go_wp2_with (go_at_call 5; refine HC.out.mono ?_; rintro e w1 ⟨rfl, k, os, hw⟩; have HB : Hid (Below w.heap.size w w1) := hw ▸ below_grow w k os; clear hw)
  go_ret
  refine ⟨?_, HB.out⟩
  have e := str_big n (by simpa using b0) (by simpa using b1) (by simpa using b2) (by simpa using b3)
  rw [← HT.out] at e
  exact congrArg (fun x => Ending.returned (.string x)) e

theorem string_any (n : Int) (h0 : -9223372036854775808 ≤ n) (h1 : n ≤ 9223372036854775807) (w : World) (htab : Lib.TabIs Tryd.prog w powName .u64 Lib.pow10Tab) :
    Calls Tryd.prog 4 #[.int .i64 n] w fun e w' => e = .returned (.string (strOf n)) ∧ Below w.heap.size w w' := by
  by_cases hn : n = 0 ∨ n = 1 ∨ n = 2 ∨ n = 3
  · exact string_small n hn w
  · exact string_big n h0 h1 (by simp; omega) (by simp; omega) (by simp; omega) (by simp; omega) w htab

theorem str_ne {n m : Int} (h : n ≠ m) : ((strOf n).toList == (strOf m).toList) = false := by
  have : (strOf n).toList ≠ (strOf m).toList := by
    intro e
    simp only [strOf, ByteArray.toList_eq] at e
    exact h (txt_inj (by simpa using e))
  simpa using this

set_option maxHeartbeats 400000 in
theorem walk (n m : Int) (n0 : -9223372036854775808 ≤ n) (n1 : n ≤ 9223372036854775807) (m0 : -9223372036854775808 ≤ m) (m1 : m ≤ 9223372036854775807) (w : World) (g : Nat) (hg : Tryd.prog.globalNamed powName = some g) (hgl : g < w.heap.size) (htab : Lib.TabIs Tryd.prog w powName .u64 Lib.pow10Tab) :
    Calls Tryd.prog 3 #[.int .i64 n, .int .i64 m] w fun e w' => e = .returned (.bool true) ∧ Below w.heap.size w w' := by
  by_cases hnm : n = m
  · subst hnm
    have hb : (n == n) = true := by simp
    clear n0 n1 m0 m1 htab hg hgl
    go_enter Tryd.func3, Tryd.ntmps3
    go_wp2
    go_ret
    exact ⟨rfl, Below.refl _ _⟩
  · have hb : (n == m) = false := by simpa using hnm
    have HS : Hid (((strOf n).toList == (strOf m).toList) = false) := str_ne hnm
    obtain ⟨sn, hsn⟩ : ∃ s, strOf n = s := ⟨_, rfl⟩
    obtain ⟨sm, hsm⟩ : ∃ s, strOf m = s := ⟨_, rfl⟩
    have C1 : Hid (Calls Tryd.prog 4 #[.int .i64 n] w fun e w' => e = .returned (.string sn) ∧ Below w.heap.size w w') := by rw [← hsn]; exact string_any n n0 n1 w htab
    have C2 : Hid (∀ W, Below w.heap.size w W → Calls Tryd.prog 4 #[.int .i64 m] W fun e w' => e = .returned (.string sm) ∧ Below W.heap.size W w') := fun W hW => by rw [← hsm]; exact string_any m m0 m1 W (tab_below hg hgl htab hW)
    rw [hsn, hsm] at HS
    have hne : (sn.toList == sm.toList) = false := HS.out
    clear HS hsn hsm n0 n1 m0 m1 htab hg hgl hnm
    go_enter Tryd.func3, Tryd.ntmps3
    go_wp2_with fail
    refine C1.out.mono ?_
    rintro e w1 ⟨rfl, B1⟩
    go_wp2_with fail
    refine (C2.out _ B1).mono ?_
    rintro e w2 ⟨rfl, B2⟩
    go_wp2
    go_ret
    exact ⟨rfl, B1.trans (B2.mono B1.size)⟩

end Go.Proofs.Qxb6604178aDoor
