/-
  has.
-/
import Derived.Test.Qxb6604040aDoorNew
import Derived.Test.Qxb6604040aDoorSame
namespace Go.Proofs.Qxb6604040aDoor
open Go.RowKit

set_option maxRecDepth 100000 in
set_option maxHeartbeats 1000000 in
theorem has24 (sb bw n : Nat) (m : Int) (S : Nat → Int) (W : Nat → ByteArray) (K : Nat → Int) (k : Int) (t : ByteArray) (w : World) (h : SetAt w sb bw n m S W K) (hP : Placed (fun i => slotI (K i) (W i).size m) S n) (hn : n < 256) (hk : k ≠ 0) (hb : t.size ≤ 1048576) (hW : ∀ i, i < n → (W i).size ≤ 1048576) :
    Calls Tryd.prog 24 #[.pointer (some ⟨sb, 0, none⟩), .int .u64 k, .string t] w fun e w' => Answers (fun r => r = true ↔ ∃ p, p < n ∧ K p = k ∧ SameFrom 8 (W p) t) e ∧ Kept Nowhere w w' := by
  have HS : Hid (SetAt w sb bw n m S W K ∧ Placed (fun i => slotI (K i) (W i).size m) S n ∧ ∀ i, i < n → (W i).size ≤ 1048576) := ⟨h, hP, hW⟩
  have c2 : w.cell? ⟨sb, 1, none⟩ = some (.int .u64 m) := h.row.cell (i := 1) (by omega)
  have c0 : w.cell? ⟨sb, 0, none⟩ = some (.slice (some ⟨bw, 0, none⟩) n n) := h.row.cell (i := 0) (by omega)
  obtain ⟨hN, hh⟩ : ∃ hN : Nat, slotI k t.size m = hN := ⟨(slotI k t.size m).toNat, by have := slotI_bound k t.size m; omega⟩
  have hb2 : hN < 2048 := by have := slotI_bound k t.size m; omega
  have hb3 : (hN : Int) < 2048 := by omega
  have HH : Hid (slotI k t.size m = (hN : Int)) := hh
  have HC : Hid (∀ q, Calls Tryd.prog 27 #[.pointer (some ⟨sb, 0, none⟩), .int .u64 k, .int .i64 (t.size : Nat)] (w.drewN q) fun e w' => e = .returned (.int .u64 (hN : Int)) ∧ w' = w.drewN q) := fun q => by
    rw [← hh]
    exact slot27 sb k t.size m (w.drewN q) (((Kept.refl Nowhere w).drewN q).nothing_cell (fun _ h => h) c2)
  have cu : w.cell? ⟨sb, 2 + hN, none⟩ = some (.int .u8 (S hN)) := by rw [h.row.cell (i := 2 + hN) (by omega), sf_slots _ _ _ _ _ hb2]
  clear hh h hP hW
  rcases HS.out.2.1.only hN hb2 with q0 | ⟨p, hp, q1, q2⟩
  · have ck : w.cell? ⟨sb, 2050, none⟩ = some (.int .u64 0) := by
      rw [HS.out.1.row.cell (i := 2050 + 0) (by omega), sf_keys]; rfl
    have HF : Hid (¬ ∃ p, p < n ∧ K p = k ∧ SameFrom 8 (W p) t) := by
      rintro ⟨p, hp, e1, e2⟩
      have := HS.out.2.1.at_ p hp
      rw [e1, e2.1, HH.out, Int.toNat_natCast, q0] at this
      omega
    rw [q0] at cu
    have hk' : ((0 : Int) != k) = true := by simp; omega
    clear q0
    go_enter Tryd.func24, Tryd.ntmps24
    go_wp2
    go_quiet (first | (go_at_call 27; refine Calls.quiet_of_same (HC.out _)))
    go_wp2
    go_ret
    exact ⟨answers rfl ⟨fun h => (by cases h), fun h => absurd h HF.out⟩, (Kept.refl _ _).drewN _⟩
  · have HU : Hid (∀ p', p' < n → K p' = k → SameFrom 8 (W p') t → p' = p) := fun p' hp' e1 e2 => by
      have := HS.out.2.1.at_ p' hp'
      rw [e1, e2.1, HH.out, Int.toNat_natCast, q2] at this
      omega
    obtain ⟨p1, hp1⟩ : ∃ p1, p + 1 = p1 := ⟨_, rfl⟩
    have cu' : w.cell? ⟨sb, 2 + hN, none⟩ = some (.int .u8 (p1 : Int)) := by rw [cu, q2, ← hp1]; rfl
    have hp1I : (p1 : Int) < 256 := by omega
    have ck : w.cell? ⟨sb, 2050 + p1, none⟩ = some (.int .u64 (K p)) := by
      rw [HS.out.1.row.cell (i := 2050 + p1) (by omega), sf_keys, if_neg (by omega), if_pos (by omega), show p1 - 1 = p by omega]
    have hsub : (p1 : Int) - 1 = (p : Int) := by omega
    have hpI : (p : Int) < (n : Int) := by omega
    have cw := HS.out.1.words p hp
    have HWs : Hid ((W p).size ≤ 1048576) := HS.out.2.2 p hp
    obtain ⟨kp, hkp⟩ : ∃ x, K p = x := ⟨_, rfl⟩
    obtain ⟨wp, hwp⟩ : ∃ x, W p = x := ⟨_, rfl⟩
    rw [hkp] at ck
    rw [hwp] at cw HWs
    have HKp : Hid (K p = kp ∧ W p = wp) := ⟨hkp, hwp⟩
    clear cu hkp hwp q1 q2 hp1
    by_cases e1 : kp = k
    · subst e1
      by_cases e2 : wp.size = t.size
      · have hsz : ((wp.size : Int) != (t.size : Int)) = false := by simp [e2]
        have HSz : Hid (wp.size = t.size) := e2
        have hwb := HWs.out
        clear e2
        go_enter Tryd.func24, Tryd.ntmps24
        go_wp2
        go_quiet (first | (go_at_call 27; refine Calls.quiet_of_same (HC.out _)))
        go_wp2
        go_loopg [9] (wp.size - 8) (fun gk v9 wr => ∃ j : Nat, 8 ≤ j ∧ wp.size - j = gk ∧ v9 = .int .i64 j ∧ j ≤ 1048576 ∧ Hid (Kept Nowhere w wr ∧ ∀ i, 8 ≤ i → i < j → i < t.size → lo8 (by8 wp i) = lo8 (by8 t i)))
        case atStart => exact ⟨8, Nat.le_refl _, rfl, rfl, by omega, (Kept.refl _ _).drewN _, fun i h0 h1 => by omega⟩
        case round =>
          obtain ⟨j, hfj, hgk, rfl, hjb, HR⟩ := hrel
          by_cases hj : j < wp.size
          · have hjt : j < t.size := by have := HSz.out; omega
            have hjI : (j : Int) < (wp.size : Int) := by omega
            have hjJ : (j : Int) < (t.size : Int) := by omega
            have hx := by8_eq hj
            have hy := by8_eq hjt
            obtain ⟨q, rfl⟩ : ∃ q, gk = q + 1 := ⟨gk - 1, by omega⟩
            by_cases he : lo8 (by8 wp j) = lo8 (by8 t j)
            · have he' : (bits BinOp.or IntKind.u8 (by8 wp j) 32 != bits BinOp.or IntKind.u8 (by8 t j) 32) = false := by
                have : bits BinOp.or IntKind.u8 (by8 wp j) 32 = bits BinOp.or IntKind.u8 (by8 t j) 32 := he
                simp [this]
              have HE : Hid (lo8 (by8 wp j) = lo8 (by8 t j)) := he
              clear he
              go_wp2
              go_quiet (fail)
              go_wp2
              go_roundg q
              case measure => omega
              case rel =>
                refine ⟨j + 1, by omega, by omega, by go_num, by omega, HR.out.1.drewN _, fun i h0 h1 h2 => ?_⟩
                by_cases e : i = j
                · subst e; exact HE.out
                · exact HR.out.2 i h0 (by omega) h2
            · have he' : (bits BinOp.or IntKind.u8 (by8 wp j) 32 != bits BinOp.or IntKind.u8 (by8 t j) 32) = true := by
                have : ¬ bits BinOp.or IntKind.u8 (by8 wp j) 32 = bits BinOp.or IntKind.u8 (by8 t j) 32 := he
                simp [this]
              have HE : Hid (¬ lo8 (by8 wp j) = lo8 (by8 t j)) := he
              clear he
              go_wp2
              go_quiet (fail)
              go_wp2
              go_ret
              refine ⟨answers rfl ⟨fun h => (by cases h), fun h => ?_⟩, HR.out.1.drewN _⟩
              obtain ⟨p', hp', f1, f2⟩ := h
              obtain rfl := HU.out p' hp' f1 f2
              rw [HKp.out.2] at f2
              exact absurd (f2.2 j hfj hjt) HE.out
          · have hjd : decide ((j : Int) < (wp.size : Int)) = false := by simp; omega
            go_wp2
            go_ret
            exact ⟨answers rfl ⟨fun _ => ⟨p, hp, HKp.out.1, by rw [HKp.out.2]; exact ⟨HSz.out, fun i h0 h1 => HR.out.2 i h0 (by have := HSz.out; omega) h1⟩⟩, fun _ => rfl⟩, HR.out.1⟩
      · have hsz : ((wp.size : Int) != (t.size : Int)) = true := by simp; omega
        have HF : Hid (¬ ∃ p, p < n ∧ K p = kp ∧ SameFrom 8 (W p) t) := by
          rintro ⟨p', hp', f1, f2⟩
          obtain rfl := HU.out p' hp' f1 f2
          rw [HKp.out.2] at f2
          exact e2 f2.1
        clear e2
        go_enter Tryd.func24, Tryd.ntmps24
        go_wp2
        go_quiet (first | (go_at_call 27; refine Calls.quiet_of_same (HC.out _)))
        go_wp2
        go_ret
        exact ⟨answers rfl ⟨fun h => (by cases h), fun h => absurd h HF.out⟩, (Kept.refl _ _).drewN _⟩
    · have hk' : (kp != k) = true := by simp [e1]
      have HF : Hid (¬ ∃ p, p < n ∧ K p = k ∧ SameFrom 8 (W p) t) := by
        rintro ⟨p', hp', f1, f2⟩
        obtain rfl := HU.out p' hp' f1 f2
        exact e1 (HKp.out.1.symm.trans f1)
      clear e1
      go_enter Tryd.func24, Tryd.ntmps24
      go_wp2
      go_quiet (first | (go_at_call 27; refine Calls.quiet_of_same (HC.out _)))
      go_wp2
      go_ret
      exact ⟨answers rfl ⟨fun h => (by cases h), fun h => absurd h HF.out⟩, (Kept.refl _ _).drewN _⟩
end Go.Proofs.Qxb6604040aDoor
