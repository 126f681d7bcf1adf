/-
  The two laws: the walks.
-/
import Derived.Test.Qxb6604040aDoorHas
namespace Go.Proofs.Qxb6604040aDoor
open Go.RowKit

set_option maxRecDepth 100000 in
set_option maxHeartbeats 400000 in
theorem bytes6 (s t : ByteArray) (w : World) : Calls Tryd.prog 6 #[.string s, .string t] w fun e w' => Answers (fun _ => True) e ∧ w' = w := by
  by_cases h1 : (1048576 : Int) < s.size
  · have d1 : decide ((1048576 : Int) < s.size) = true := decide_eq_true h1
    go_enter Tryd.func6, Tryd.ntmps6
    go_wp2
    go_ret
    exact ⟨answers rfl trivial, rfl⟩
  · have d1 : (s.size : Int) ≤ 1048576 := by omega
    clear h1
    by_cases h2 : (1048576 : Int) < t.size
    · have d2 : decide ((1048576 : Int) < t.size) = true := decide_eq_true h2
      go_enter Tryd.func6, Tryd.ntmps6
      go_wp2
      go_ret
      exact ⟨answers rfl trivial, rfl⟩
    · have d2 : (t.size : Int) ≤ 1048576 := by omega
      clear h2
      by_cases h3 : (1048576 : Int) < (s.size : Int) + t.size
      · have d3 : decide ((1048576 : Int) < (s.size : Int) + t.size) = true := decide_eq_true h3
        go_enter Tryd.func6, Tryd.ntmps6
        go_wp2
        go_ret
        exact ⟨answers rfl trivial, rfl⟩
      · have d3 : (s.size : Int) + t.size ≤ 1048576 := by omega
        clear h3
        go_enter Tryd.func6, Tryd.ntmps6
        go_wp2
        go_ret
        exact ⟨answers rfl trivial, rfl⟩

set_option maxRecDepth 100000 in
set_option maxHeartbeats 400000 in
theorem bytes12 (s t : ByteArray) (k : Int) (w : World) : Calls Tryd.prog 12 #[.string s, .int .u64 k, .string t] w fun e w' => Answers (fun _ => True) e ∧ w' = w := by
  by_cases h1 : (1048576 : Int) < s.size
  · have d1 : decide ((1048576 : Int) < s.size) = true := decide_eq_true h1
    go_enter Tryd.func12, Tryd.ntmps12
    go_wp2
    go_ret
    exact ⟨answers rfl trivial, rfl⟩
  · have d1 : (s.size : Int) ≤ 1048576 := by omega
    clear h1
    by_cases h2 : (1048576 : Int) < t.size
    · have d2 : decide ((1048576 : Int) < t.size) = true := decide_eq_true h2
      go_enter Tryd.func12, Tryd.ntmps12
      go_wp2
      go_ret
      exact ⟨answers rfl trivial, rfl⟩
    · have d2 : (t.size : Int) ≤ 1048576 := by omega
      clear h2
      by_cases h3 : (1048576 : Int) < (s.size : Int) + t.size
      · have d3 : decide ((1048576 : Int) < (s.size : Int) + t.size) = true := decide_eq_true h3
        go_enter Tryd.func12, Tryd.ntmps12
        go_wp2
        go_ret
        exact ⟨answers rfl trivial, rfl⟩
      · have d3 : (s.size : Int) + t.size ≤ 1048576 := by omega
        clear h3
        go_enter Tryd.func12, Tryd.ntmps12
        go_wp2
        go_ret
        exact ⟨answers rfl trivial, rfl⟩

/-- the library's table, wherever the memory of the call's beginning is kept -/
def TabKept (w : World) : Prop := ∀ w', Kept Nowhere w w' → Lib.TabIs Tryd.prog w' "strings.asciiSpace" .u8 Lib.asciiSpaceTab

theorem ascii_of {s : ByteArray} (h : InDom s s.size) (j : Nat) (b : UInt8) (hb : s.data.toList[j]? = some b) : b.toNat < 128 := by
  have hj : j < s.size := by rw [Lib.size_eq]; exact (List.getElem?_eq_some_iff.1 hb).1
  have e : s[j] = b := Option.some.inj ((Lib.data_getElem? s j hj).symm.trans hb)
  have hd := h j hj
  rw [← by8_eq hj, e] at hd
  rcases hd with q | q
  · rcases isWdI_cases q with q | q | q <;> omega
  · simp [isSpI] at q; omega

theorem fieldsAt {s : ByteArray} {w : World} (hs : s.size ≤ 1048576) (hd : InDom s s.size) (ht : Lib.TabIs Tryd.prog w "strings.asciiSpace" .u8 Lib.asciiSpaceTab) : FieldsAt s w := by
  refine (Tryd.strings_Fields s w (by omega) (fun j b hb => ascii_of hd j b hb) ht).mono ?_
  rintro e w' ⟨rfl, rfl⟩
  refine ⟨rfl, (Kept.refl _ _).alloc _, by simp, fun i hi => ?_⟩
  have hr := World.rowIs_alloc w ((Lib.fields s.data.toList).map fun l => Value.string ⟨l.toArray⟩).toArray 9 (fun i => .string (wordAt s i)) (fun i hi => by
    simp at hi
    simp [wordAt, List.getD_eq_getElem?_getD, hi])
  exact hr.cell (by simpa [nWords] using hi)

set_option maxRecDepth 100000 in
set_option maxHeartbeats 400000 in
theorem znew8 (s : ByteArray) (t : Nat) (w : World) (hb : s.size ≤ 1048576) (hC : FieldsAt s w) (hP : Prem s t) :
    Calls Tryd.prog 8 #[.string s] w fun e w' => (∃ sb bw S, e = .returned (.pointer (some ⟨sb, 0, none⟩)) ∧ SetAt w' sb bw (nWords s) (mulT t) S (wordAt s) (keyAt s) ∧ Placed (fun i => slotI (keyAt s i) (wordAt s i).size (mulT t)) S (nWords s)) ∧ Kept Nowhere w w' := by
  have HN : Hid (Calls Tryd.prog 23 _ w _) := new23 s t w hb hC hP
  clear hC hP
  go_enter Tryd.func8, Tryd.ntmps8
  go_wp2_with (go_at_call 23; refine HN.out.mono ?_; rintro e w1 ⟨⟨sb, bw, S, rfl, h1, h2⟩, hk⟩)
  go_ret
  exact ⟨⟨sb, bw, S, rfl, h1, h2⟩, hk⟩

set_option maxRecDepth 100000 in
set_option maxHeartbeats 400000 in
theorem zhas9 (sb bw n : Nat) (m : Int) (S : Nat → Int) (W : Nat → ByteArray) (K : Nat → Int) (k : Int) (t : ByteArray) (w : World) (h : SetAt w sb bw n m S W K) (hP : Placed (fun i => slotI (K i) (W i).size m) S n) (hn : n < 256) (hk : k ≠ 0) (hb : t.size ≤ 1048576) (hW : ∀ i, i < n → (W i).size ≤ 1048576) :
    Calls Tryd.prog 9 #[.pointer (some ⟨sb, 0, none⟩), .int .u64 k, .string t] w fun e w' => Answers (fun r => r = true ↔ ∃ p, p < n ∧ K p = k ∧ SameFrom 8 (W p) t) e ∧ Kept Nowhere w w' := by
  have HN : Hid (Calls Tryd.prog 24 _ w _) := has24 sb bw n m S W K k t w h hP hn hk hb hW
  clear h hP hW
  go_enter Tryd.func9, Tryd.ntmps9
  go_wp2_with (go_at_call 24; refine HN.out.mono ?_; rintro e w1 ⟨⟨r, rfl, hr⟩, hk⟩)
  go_ret
  exact ⟨answers rfl hr, hk⟩

theorem same_key {r t : ByteArray} : SameFrom 0 r t ↔ keyOf r = keyOf t ∧ SameFrom 8 r t := by
  constructor
  · intro h
    exact ⟨(keyOf_inj h.1).2 (fun i h0 _ => h.2 i (by omega) (by rw [← h.1]; exact h0)), h.1, fun i _ h1 => h.2 i (by omega) h1⟩
  · rintro ⟨h1, h2⟩
    refine ⟨h2.1, fun i _ hi => ?_⟩
    by_cases h8 : i < 8
    · exact (keyOf_inj h2.1).1 h1 i (by rw [h2.1]; exact hi) h8
    · exact h2.2 i (by omega) hi

set_option maxRecDepth 100000 in
set_option maxHeartbeats 2000000 in
theorem matches3 (s t : ByteArray) (w : World) (hT : TabKept w) : Calls Tryd.prog 3 #[.string s, .string t] w fun e w' => e = .returned (.bool true) ∧ Kept Nowhere w w' := by
  have HB : Hid (Calls Tryd.prog 6 #[.string s, .string t] w fun e w' => Answers (fun _ => True) e ∧ w' = w) := bytes6 s t w
  have HTab : Hid (TabKept w) := hT
  clear hT
  by_cases h1 : (65536 : Int) < s.size
  · have d1 : decide ((65536 : Int) < s.size) = true := decide_eq_true h1
    go_enter Tryd.func3, Tryd.ntmps3
    go_wp2_with (go_at_call 6; refine HB.out.mono ?_; rintro e w1 ⟨⟨r, rfl, -⟩, hw1⟩; subst w1; cases r)
    all_goals go_ret
    all_goals exact ⟨rfl, Kept.refl _ _⟩
  have d1 : (s.size : Int) ≤ 65536 := by omega
  clear h1
  by_cases h2 : (65536 : Int) < t.size
  · have d2 : decide ((65536 : Int) < t.size) = true := decide_eq_true h2
    go_enter Tryd.func3, Tryd.ntmps3
    go_wp2_with (go_at_call 6; refine HB.out.mono ?_; rintro e w1 ⟨⟨r, rfl, -⟩, hw1⟩; subst w1; cases r)
    all_goals go_ret
    all_goals exact ⟨rfl, Kept.refl _ _⟩
  have d2 : (t.size : Int) ≤ 65536 := by omega
  clear h2
  by_cases h3 : t.size = 0
  · have d3 : ((t.size : Int) == 0) = true := by simp [h3]
    clear h3
    go_enter Tryd.func3, Tryd.ntmps3
    go_wp2_with (go_at_call 6; refine HB.out.mono ?_; rintro e w1 ⟨⟨r, rfl, -⟩, hw1⟩; subst w1; cases r)
    all_goals go_ret
    all_goals exact ⟨rfl, Kept.refl _ _⟩
  have d3 : ((t.size : Int) == 0) = false := by rw [beq_eq_false_iff_ne]; omega
  have HKey : Hid (keyOf t ≠ 0) := keyOf_ne (by omega)
  clear h3
  have HPr : Hid (Calls Tryd.prog 7 _ w _) := prem7 s w (by omega)
  go_enter Tryd.func3, Tryd.ntmps3
  go_upto_region 7 with (go_at_call 6; refine HB.out.mono ?_; rintro e w1 ⟨⟨r, rfl, -⟩, hw1⟩; subst w1; cases r)
  · go_ret
    exact ⟨rfl, Kept.refl _ _⟩
  go_upto_region 10 with (go_at_call 7; refine HPr.out.mono ?_; rintro e w1 ⟨hp, hk1⟩; rcases hp with rfl | ⟨aw, kw, ak, kk, tt, rfl, hst, hks, hpr⟩)
  · go_ret
    exact ⟨rfl, hk1⟩
  have HK1 : Hid (Kept Nowhere w w1) := hk1
  have HSt : Hid (StrsAt w1 aw (nWords s) (wordAt s) ∧ KeysAt w1 ak (nWords s) (keyAt s)) := ⟨hst, hks⟩
  have HP : Hid (Prem s tt) := hpr
  have HZn : Hid (Calls Tryd.prog 8 _ w1 _) := znew8 s tt w1 (by omega) (fieldsAt (by omega) HP.out.dom (HTab.out w1 HK1.out)) HP.out
  obtain ⟨n, hn⟩ : ∃ n, nWords s = n := ⟨_, rfl⟩
  have HN : Hid (nWords s = n) := hn
  have hn256 : n < 256 := by have := HP.out.few; omega
  rw [hn] at HSt HZn
  simp only [hn]
  clear hk1 hst hks hpr HPr HB hn
  go_upto_region 11 with (go_at_call 8; refine HZn.out.mono ?_; rintro e w2 ⟨⟨sb, bw, S, rfl, hset, hpl⟩, hk2⟩)
  have HK2 : Hid (Kept Nowhere w1 w2) := hk2
  have HHas : Hid (∀ W, Kept Nowhere w2 W → Calls Tryd.prog 9 #[.pointer (some ⟨sb, 0, none⟩), .int .u64 (keyOf t), .string t] W fun e w' => Answers (fun r => r = true ↔ ∃ p, p < n ∧ keyAt s p = keyOf t ∧ SameFrom 8 (wordAt s p) t) e ∧ Kept Nowhere W w') := fun W kW => zhas9 sb bw n (mulT tt) S (wordAt s) (keyAt s) (keyOf t) t W (hset.kept kW) hpl hn256 HKey.out (by omega) (fun i hi => by have := wordAt_size (s := s) (i := i) (by have := HN.out; omega); omega)
  clear hk2 hset hpl HZn
  obtain ⟨kt, hkt⟩ : ∃ x, keyOf t = x := ⟨_, rfl⟩
  have HKt : Hid (keyOf t = kt) := hkt
  have HZk : Hid (Calls Tryd.prog 10 #[.string t] w2 fun e w' => e = .returned (.int .u64 kt) ∧ w' = w2) := by rw [← hkt]; exact zkey10 t w2 (by omega)
  rw [hkt] at HHas
  clear hkt
  go_upto_region 12 with (first | (go_at_call 10; refine HZk.out.mono ?_; rintro e w3 ⟨rfl, hw3⟩; subst w3) | (go_at_call 9; refine (HHas.out w2 (Kept.refl _ _)).mono ?_; rintro e w3 ⟨⟨r, rfl, hr⟩, hk3⟩))
  have HGot : Hid (r = true ↔ ∃ p, p < n ∧ keyAt s p = kt ∧ SameFrom 8 (wordAt s p) t) := hr
  have HK3 : Hid (Kept Nowhere w2 w3) := hk3
  clear hr hk3 HHas
  go_wp2
  go_loopg [11, 12] n (fun gk v1 v2 wr => ∃ (j : Nat) (b : Bool), j + gk = n ∧ v2 = .int .i64 j ∧ v1 = .bool b ∧ Hid (Kept Nowhere w3 wr ∧ (b = true ↔ ∃ p, p < j ∧ SameFrom 0 (wordAt s p) t)))
  case atStart => exact ⟨0, false, by omega, rfl, rfl, Kept.refl _ _, ⟨fun h => (by cases h), fun ⟨p, h, _⟩ => (by omega)⟩⟩
  case round =>
    obtain ⟨j, b, hjk, rfl, rfl, HR⟩ := hrel
    by_cases hj : j < n
    · have hjI : (j : Int) < (n : Int) := by omega
      have K3 : Hid (Kept Nowhere w1 wr) := (HK2.out.trans HK3.out).trans HR.out.1
      obtain ⟨b1, o1, rfl, hc1⟩ := HSt.out.1 (by omega)
      have c1 := K3.out.nothing_cell (fun _ h => h) (hc1 j hj)
      have hwz : (wordAt s j).size ≤ 1048576 := by have := wordAt_size (s := s) (i := j) (by have := HN.out; omega); omega
      have HSa : Hid (Calls Tryd.prog 11 #[.string (wordAt s j), .string t] wr _) := same11 (wordAt s j) t (wordAt_ok (by have := HN.out; omega) HP.out.dom) hwz (by omega) wr
      obtain ⟨q, rfl⟩ : ∃ q, gk = q + 1 := ⟨gk - 1, by omega⟩
      clear hc1 hwz
      go_wp2_with (go_at_call 11; refine HSa.out.mono ?_; rintro e w4 ⟨⟨r4, rfl, hr4⟩, hk4⟩; cases r4)
      · have HNo : Hid (¬ SameFrom 0 (wordAt s j) t) := fun h => by first | exact Bool.noConfusion (hr4.2 h) | (simp at hr4; exact hr4 h)
        go_roundg q
        case measure => omega
        case rel =>
          refine ⟨j + 1, b, by omega, by go_num, rfl, HR.out.1.trans hk4, ?_⟩
          refine ⟨fun h => ?_, fun h => ?_⟩
          · obtain ⟨p, hp, e⟩ := HR.out.2.1 h
            exact ⟨p, by omega, e⟩
          · obtain ⟨p, hp, e⟩ := h
            by_cases ep : p = j
            · subst ep; exact absurd e HNo.out
            · exact HR.out.2.2 ⟨p, by omega, e⟩
      · have HYes : Hid (SameFrom 0 (wordAt s j) t) := by first | exact hr4.1 rfl | (simp at hr4; exact hr4)
        go_roundg q
        case measure => omega
        case rel =>
          refine ⟨j + 1, true, by omega, by go_num, rfl, HR.out.1.trans hk4, ?_⟩
          exact ⟨fun _ => ⟨j, by omega, HYes.out⟩, fun _ => rfl⟩
    · obtain rfl : j = n := by omega
      have hrb : r = b := by
        have e : (r = true ↔ b = true) := by
          rw [HGot.out, HR.out.2]
          constructor
          · rintro ⟨p, hp, e1, e2⟩; exact ⟨p, by omega, same_key.2 ⟨by rw [HKt.out]; exact e1, e2⟩⟩
          · rintro ⟨p, hp, e1⟩
            have := same_key.1 e1
            rw [HKt.out] at this
            exact ⟨p, by omega, this.1, this.2⟩
        cases r <;> cases b <;> simp_all
      subst hrb
      go_wp2
      go_ret
      exact ⟨by simp, ((HK1.out.trans HK2.out).trans HK3.out).trans HR.out.1⟩

set_option maxRecDepth 100000 in
set_option maxHeartbeats 2000000 in
theorem probe4 (s t : ByteArray) (k : Int) (w : World) (hT : TabKept w) : Calls Tryd.prog 4 #[.string s, .int .u64 k, .string t] w fun e w' => e = .returned (.bool true) ∧ Kept Nowhere w w' := by
  have HB : Hid (Calls Tryd.prog 12 #[.string s, .int .u64 k, .string t] w fun e w' => Answers (fun _ => True) e ∧ w' = w) := bytes12 s t k w
  have HTab : Hid (TabKept w) := hT
  clear hT
  by_cases h1 : (65536 : Int) < s.size
  · have d1 : decide ((65536 : Int) < s.size) = true := decide_eq_true h1
    go_enter Tryd.func4, Tryd.ntmps4
    go_wp2_with (go_at_call 12; refine HB.out.mono ?_; rintro e w1 ⟨⟨r, rfl, -⟩, hw1⟩; subst w1; cases r)
    all_goals go_ret
    all_goals exact ⟨rfl, Kept.refl _ _⟩
  have d1 : (s.size : Int) ≤ 65536 := by omega
  clear h1
  by_cases h2 : (65536 : Int) < t.size
  · have d2 : decide ((65536 : Int) < t.size) = true := decide_eq_true h2
    go_enter Tryd.func4, Tryd.ntmps4
    go_wp2_with (go_at_call 12; refine HB.out.mono ?_; rintro e w1 ⟨⟨r, rfl, -⟩, hw1⟩; subst w1; cases r)
    all_goals go_ret
    all_goals exact ⟨rfl, Kept.refl _ _⟩
  have d2 : (t.size : Int) ≤ 65536 := by omega
  clear h2
  by_cases h3 : k = 0
  · have d3 : (k == 0) = true := by simp [h3]
    clear h3
    go_enter Tryd.func4, Tryd.ntmps4
    go_wp2_with (go_at_call 12; refine HB.out.mono ?_; rintro e w1 ⟨⟨r, rfl, -⟩, hw1⟩; subst w1; cases r)
    all_goals go_ret
    all_goals exact ⟨rfl, Kept.refl _ _⟩
  have d3 : (k == 0) = false := by simp [h3]
  have HKey : Hid (k ≠ 0) := h3
  clear h3
  have HPr : Hid (Calls Tryd.prog 7 _ w _) := prem7 s w (by omega)
  go_enter Tryd.func4, Tryd.ntmps4
  go_upto_region 7 with (go_at_call 12; refine HB.out.mono ?_; rintro e w1 ⟨⟨r, rfl, -⟩, hw1⟩; subst w1; cases r)
  · go_ret
    exact ⟨rfl, Kept.refl _ _⟩
  go_upto_region 10 with (go_at_call 7; refine HPr.out.mono ?_; rintro e w1 ⟨hp, hk1⟩; rcases hp with rfl | ⟨aw, kw, ak, kk, tt, rfl, hst, hks, hpr⟩)
  · go_ret
    exact ⟨rfl, hk1⟩
  have HK1 : Hid (Kept Nowhere w w1) := hk1
  have HSt : Hid (StrsAt w1 aw (nWords s) (wordAt s) ∧ KeysAt w1 ak (nWords s) (keyAt s)) := ⟨hst, hks⟩
  have HP : Hid (Prem s tt) := hpr
  have HZn : Hid (Calls Tryd.prog 8 _ w1 _) := znew8 s tt w1 (by omega) (fieldsAt (by omega) HP.out.dom (HTab.out w1 HK1.out)) HP.out
  obtain ⟨n, hn⟩ : ∃ n, nWords s = n := ⟨_, rfl⟩
  have HN : Hid (nWords s = n) := hn
  have hn256 : n < 256 := by have := HP.out.few; omega
  rw [hn] at HSt HZn
  simp only [hn]
  clear hk1 hst hks hpr HPr HB hn
  go_upto_region 11 with (go_at_call 8; refine HZn.out.mono ?_; rintro e w2 ⟨⟨sb, bw, S, rfl, hset, hpl⟩, hk2⟩)
  have HK2 : Hid (Kept Nowhere w1 w2) := hk2
  have HHas : Hid (∀ W, Kept Nowhere w2 W → Calls Tryd.prog 9 #[.pointer (some ⟨sb, 0, none⟩), .int .u64 (k), .string t] W fun e w' => Answers (fun r => r = true ↔ ∃ p, p < n ∧ keyAt s p = k ∧ SameFrom 8 (wordAt s p) t) e ∧ Kept Nowhere W w') := fun W kW => zhas9 sb bw n (mulT tt) S (wordAt s) (keyAt s) (k) t W (hset.kept kW) hpl hn256 HKey.out (by omega) (fun i hi => by have := wordAt_size (s := s) (i := i) (by have := HN.out; omega); omega)
  clear hk2 hset hpl HZn
  go_upto_region 12 with (go_at_call 9; refine (HHas.out w2 (Kept.refl _ _)).mono ?_; rintro e w3 ⟨⟨r, rfl, hr⟩, hk3⟩)
  have HGot : Hid (r = true ↔ ∃ p, p < n ∧ keyAt s p = k ∧ SameFrom 8 (wordAt s p) t) := hr
  have HK3 : Hid (Kept Nowhere w2 w3) := hk3
  clear hr hk3 HHas
  go_wp2
  go_loopg [13, 14] n (fun gk v1 v2 wr => ∃ (j : Nat) (b : Bool), j + gk = n ∧ v2 = .int .i64 j ∧ v1 = .bool b ∧ Hid (Kept Nowhere w3 wr ∧ (b = true ↔ ∃ p, p < j ∧ (keyAt s p = k ∧ SameFrom 8 (wordAt s p) t))))
  case atStart => exact ⟨0, false, by omega, rfl, rfl, Kept.refl _ _, ⟨fun h => (by cases h), fun ⟨p, h, _⟩ => (by omega)⟩⟩
  case round =>
    obtain ⟨j, b, hjk, rfl, rfl, HR⟩ := hrel
    by_cases hj : j < n
    · have hjI : (j : Int) < (n : Int) := by omega
      have K3 : Hid (Kept Nowhere w1 wr) := (HK2.out.trans HK3.out).trans HR.out.1
      obtain ⟨b1, o1, rfl, hc1⟩ := HSt.out.1 (by omega)
      have c1 := K3.out.nothing_cell (fun _ h => h) (hc1 j hj)
      have hwz : (wordAt s j).size ≤ 1048576 := by have := wordAt_size (s := s) (i := j) (by have := HN.out; omega); omega
      have HSa : Hid (Calls Tryd.prog 13 #[.string (wordAt s j), .string t] wr _) := same13 (wordAt s j) t (wordAt_ok (by have := HN.out; omega) HP.out.dom) hwz (by omega) wr
      obtain ⟨q, rfl⟩ : ∃ q, gk = q + 1 := ⟨gk - 1, by omega⟩
      clear hc1 hwz
      obtain ⟨b2, o2, rfl, hc2⟩ := HSt.out.2 (by omega)
      have c2 := K3.out.nothing_cell (fun _ h => h) (hc2 j hj)
      obtain ⟨kj, hkj⟩ : ∃ x, keyAt s j = x := ⟨_, rfl⟩
      rw [hkj] at c2
      have HKj : Hid (keyAt s j = kj) := hkj
      clear hc2 hkj
      by_cases he : kj = k
      · have he' : (kj == k) = true := by simp [he]
        have HE : Hid (kj = k) := he
        clear he
        go_wp2_with (go_at_call 13; refine HSa.out.mono ?_; rintro e w4 ⟨⟨r4, rfl, hr4⟩, hk4⟩; cases r4)
        · have HNo : Hid (¬ SameFrom 8 (wordAt s j) t) := fun h => by first | exact Bool.noConfusion (hr4.2 h) | (simp at hr4; exact hr4 h)
          go_roundg q
          case measure => omega
          case rel =>
            refine ⟨j + 1, b, by omega, by go_num, rfl, HR.out.1.trans hk4, ?_⟩
            refine ⟨fun h => ?_, fun h => ?_⟩
            · obtain ⟨p, hp, e⟩ := HR.out.2.1 h
              exact ⟨p, by omega, e⟩
            · obtain ⟨p, hp, e⟩ := h
              by_cases ep : p = j
              · subst ep; exact absurd e.2 HNo.out
              · exact HR.out.2.2 ⟨p, by omega, e⟩
        · have HYes : Hid (SameFrom 8 (wordAt s j) t) := by first | exact hr4.1 rfl | (simp at hr4; exact hr4)
          go_roundg q
          case measure => omega
          case rel =>
            refine ⟨j + 1, true, by omega, by go_num, rfl, HR.out.1.trans hk4, ?_⟩
            exact ⟨fun _ => ⟨j, by omega, ⟨HKj.out.trans HE.out, HYes.out⟩⟩, fun _ => rfl⟩
      · have he' : (kj == k) = false := by simp [he]
        have HE : Hid (¬ kj = k) := he
        clear he
        go_wp2
        go_roundg q
        case measure => omega
        case rel =>
          refine ⟨j + 1, b, by omega, by go_num, rfl, HR.out.1.trans (Kept.refl _ _), ?_⟩
          refine ⟨fun h => ?_, fun h => ?_⟩
          · obtain ⟨p, hp, e⟩ := HR.out.2.1 h
            exact ⟨p, by omega, e⟩
          · obtain ⟨p, hp, e⟩ := h
            by_cases ep : p = j
            · subst ep; exact absurd (HKj.out.symm.trans e.1) HE.out
            · exact HR.out.2.2 ⟨p, by omega, e⟩
    · obtain rfl : j = n := by omega
      have hrb : r = b := by
        have e : (r = true ↔ b = true) := by
          rw [HGot.out, HR.out.2]
        cases r <;> cases b <;> simp_all
      subst hrb
      go_wp2
      go_ret
      exact ⟨by simp, ((HK1.out.trans HK2.out).trans HK3.out).trans HR.out.1⟩
end Go.Proofs.Qxb6604040aDoor
