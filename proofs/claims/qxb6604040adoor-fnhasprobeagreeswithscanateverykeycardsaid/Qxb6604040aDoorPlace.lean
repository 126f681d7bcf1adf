/-
  slot; placeable.
-/
import Derived.Test.Qxb6604040aDoorKey
import Derived.Test.Qxb6604040aDoorMem
namespace Go.Proofs.Qxb6604040aDoor
open Go.RowKit

/-- the slot that a multiplier gives a key and a length -/
def slotI (k : Int) (n : Nat) (m : Int) : Int := IntKind.u64.wrap (IntKind.u64.wrap (k + IntKind.u64.wrap (n : Int)) * m) / 9007199254740992
theorem slotI_bound (k : Int) (n : Nat) (m : Int) : 0 ≤ slotI k n m ∧ slotI k n m < 2048 := by
  unfold slotI
  rw [IntKind.wrap_u64 (IntKind.u64.wrap (k + IntKind.u64.wrap (n : Int)) * m)]
  have h0 := Int.emod_nonneg (IntKind.u64.wrap (k + IntKind.u64.wrap (n : Int)) * m) (show (18446744073709551616 : Int) ≠ 0 by omega)
  have h1 := Int.emod_lt_of_pos (IntKind.u64.wrap (k + IntKind.u64.wrap (n : Int)) * m) (show (0 : Int) < 18446744073709551616 by omega)
  generalize (IntKind.u64.wrap (k + IntKind.u64.wrap (n : Int)) * m) % 18446744073709551616 = z at *
  omega

set_option maxRecDepth 100000 in
set_option maxHeartbeats 400000 in
theorem slot27 (sb : Nat) (k : Int) (n : Nat) (m : Int) (w : World) (hm : w.cell? ⟨sb, 1, none⟩ = some (.int .u64 m)) : Calls Tryd.prog 27 #[.pointer (some ⟨sb, 0, none⟩), .int .u64 k, .int .i64 (n : Nat)] w fun e w' => e = .returned (.int .u64 (slotI k n m)) ∧ w' = w := by
  go_enter Tryd.func27, Tryd.ntmps27
  go_wp2
  go_ret
  exact ⟨rfl, rfl⟩

def Z53 : Array Value := Array.replicate 2048 (.bool false)
theorem info53 : (Tryd.prog.info? 53).map (fun i => (i.zero, i.size)) = some (some (.agg Z53), 2048) := by kernel_rfl
theorem zero53 (w : World) : (zeroValue 53).run Tryd.prog w = .ok (.agg Z53) w := by
  obtain ⟨i, hi, hz⟩ := Option.map_eq_some_iff.1 info53
  simp only [Prod.mk.injEq] at hz
  simp [zeroValue, typeInfo, hi, hz.1, go_sem]

/-- the words and their keys as memory holds them -/
def StrsAt (w : World) (a : Option Addr) (n : Nat) (W : Nat → ByteArray) : Prop :=
  n ≠ 0 → ∃ b o, a = some ⟨b, o, none⟩ ∧ ∀ j, j < n → w.cell? ⟨b, o + j, none⟩ = some (.string (W j))
def KeysAt (w : World) (a : Option Addr) (n : Nat) (K : Nat → Int) : Prop :=
  n ≠ 0 → ∃ b o, a = some ⟨b, o, none⟩ ∧ ∀ j, j < n → w.cell? ⟨b, o + j, none⟩ = some (.int .u64 (K j))
theorem StrsAt.kept {w w' : World} {a : Option Addr} {n : Nat} {W : Nat → ByteArray} (h : StrsAt w a n W) (k : Kept Nowhere w w') : StrsAt w' a n W := fun hn => by
  obtain ⟨b, o, ha, hc⟩ := h hn
  exact ⟨b, o, ha, fun j hj => k.nothing_cell (fun _ h => h) (hc j hj)⟩
theorem KeysAt.kept {w w' : World} {a : Option Addr} {n : Nat} {K : Nat → Int} (h : KeysAt w a n K) (k : Kept Nowhere w w') : KeysAt w' a n K := fun hn => by
  obtain ⟨b, o, ha, hc⟩ := h hn
  exact ⟨b, o, ha, fun j hj => k.nothing_cell (fun _ h => h) (hc j hj)⟩

/-- the slots of the first n words are pairwise distinct -/
def Apart (S : Nat → Int) (n : Nat) : Prop := ∀ i j, i < j → j < n → S i ≠ S j
theorem Apart.snoc {S : Nat → Int} {n : Nat} (h : Apart S n) (hn : ∀ i, i < n → S i ≠ S n) : Apart S (n + 1) := fun i j hij hj => by
  by_cases e : j = n
  · subst e; exact hn i hij
  · exact h i j hij (by omega)

/-- what the marks hold -/
def mark (S : Nat → Int) (j : Nat) (h : Nat) : Bool := (List.range j).any fun i => S i == (h : Int)
theorem mark_iff {S : Nat → Int} {j h : Nat} : mark S j h = true ↔ ∃ i, i < j ∧ S i = (h : Int) := by
  unfold mark
  rw [List.any_eq_true]
  constructor
  · rintro ⟨i, hi, e⟩; exact ⟨i, List.mem_range.1 hi, by simpa using e⟩
  · rintro ⟨i, hi, e⟩; exact ⟨i, List.mem_range.2 hi, by simpa using e⟩

set_option maxRecDepth 100000 in
set_option maxHeartbeats 1000000 in
theorem placeable30 (aw ak : Option Addr) (n kw kk : Nat) (m : Int) (W : Nat → ByteArray) (K : Nat → Int) (w : World) (hw : StrsAt w aw n W) (hk : KeysAt w ak n K) (hb : n ≤ 1048576) :
    Calls Tryd.prog 30 #[.slice aw n kw, .slice ak n kk, .int .u64 m] w fun e w' => Answers (fun r => r = true ↔ Apart (fun i => slotI (K i) (W i).size m) n) e ∧ Kept Nowhere w w' := by
  obtain ⟨S, hS⟩ : ∃ S : Nat → Int, S = fun i => slotI (K i) (W i).size m := ⟨_, rfl⟩
  rw [← hS]
  have HS : Hid (∀ i, S i = slotI (K i) (W i).size m) := fun i => by rw [hS]
  clear hS
  have HW : Hid (StrsAt w aw n W ∧ KeysAt w ak n K) := ⟨hw, hk⟩
  clear hw hk
  have z53 := zero53
  go_enter Tryd.func30, Tryd.ntmps30
  go_wp2
  clear z53
  go_loopg [8] n (fun gk v8 wr => ∃ j : Nat, j + gk = n ∧ v8 = .int .i64 j ∧ Hid (Kept Nowhere w wr ∧ wr.rowIs w.heap.size 53 2048 (fun h => .bool (mark S j h)) ∧ Apart S j))
  case atStart =>
    refine ⟨0, by omega, rfl, (Kept.refl _ _).alloc _, ?_, fun i j _ h => by omega⟩
    refine World.rowIs_alloc w Z53 53 _ (fun i hi => ?_)
    have h0 : mark S 0 i = false := by simp [mark]
    rw [h0]
    simp only [Z53, Array.size_replicate] at hi ⊢
    simp [hi]
  case round =>
    obtain ⟨j, hjk, rfl, HR⟩ := hrel
    by_cases hj : j < n
    · have hjI : (j : Int) < (n : Int) := by omega
      obtain ⟨b1, o1, rfl, hc1⟩ := HW.out.1 (by omega)
      obtain ⟨b2, o2, rfl, hc2⟩ := HW.out.2 (by omega)
      have c1 := HR.out.1.nothing_cell (fun _ h => h) (hc1 j hj)
      have c2 := HR.out.1.nothing_cell (fun _ h => h) (hc2 j hj)
      obtain ⟨q, rfl⟩ : ∃ q, gk = q + 1 := ⟨gk - 1, by omega⟩
      obtain ⟨kj, hkj⟩ : ∃ k, K j = k := ⟨_, rfl⟩
      obtain ⟨wj, hwj⟩ : ∃ s, W j = s := ⟨_, rfl⟩
      rw [hkj] at c2
      rw [hwj] at c1
      have HSj : Hid (S j = slotI kj wj.size m) := by show _ = _; rw [HS.out, hkj, hwj]
      clear hc1 hc2 hkj hwj
      go_wp2
      go_quiet (fail)
      obtain ⟨hN, hh⟩ : ∃ hN : Nat, slotI kj wj.size m = hN := ⟨(slotI kj wj.size m).toNat, by have := slotI_bound kj wj.size m; omega⟩
      have hb2 : hN < 2048 := by have := slotI_bound kj wj.size m; omega
      have hb3 : (hN : Int) < 2048 := by omega
      have HSh : Hid (S j = (hN : Int)) := by show _ = _; rw [HSj.out, hh]
      have hh' : IntKind.u64.wrap (IntKind.u64.wrap (kj + IntKind.u64.wrap (wj.size : Int)) * m) / 9007199254740992 = (hN : Int) := hh
      simp only [hh']
      clear hh hh' c1 c2
      have cu := HR.out.2.1.cell (i := hN) (by omega)
      have zu := HR.out.2.1.frozen hN
      by_cases hmk : mark S j hN = true
      · rw [hmk] at cu
        go_wp2
        go_ret
        refine ⟨answers rfl ⟨fun h => (by cases h), fun hA => ?_⟩, HR.out.1.drewN _⟩
        obtain ⟨i, hi, he⟩ := mark_iff.1 hmk
        exact absurd (he.trans HSh.out.symm) (hA i j hi hj)
      · have hmk' : mark S j hN = false := by simpa using hmk
        rw [hmk'] at cu
        have HM : Hid (∀ i, i < j → S i ≠ (hN : Int)) := fun i hi he => hmk (mark_iff.2 ⟨i, hi, he⟩)
        clear hmk hmk'
        go_wp2
        go_roundg q
        case measure => omega
        case rel =>
          refine ⟨j + 1, by omega, by go_num, (HR.out.1.drewN _).setCell (.inr (Nat.le_refl _)) _, ((row_drawn HR.out.2.1 ((Drawn.refl _).drewN nq)).set hN _).congr (fun h _ => ?_), HR.out.2.2.snoc (fun i hi he => HM.out i hi (he.trans HSh.out))⟩
          by_cases e : h = hN
          · subst e
            rw [if_pos rfl]
            have : mark S (j + 1) h = true := mark_iff.2 ⟨j, by omega, HSh.out⟩
            rw [this]
          · rw [if_neg e]
            congr 1
            rw [Bool.eq_iff_iff, mark_iff, mark_iff]
            constructor
            · rintro ⟨i, hi, he⟩; exact ⟨i, by omega, he⟩
            · rintro ⟨i, hi, he⟩
              by_cases e2 : i = j
              · subst e2; rw [HSh.out] at he; exact absurd (by omega) e
              · exact ⟨i, by omega, he⟩
    · go_wp2
      go_ret
      exact ⟨⟨true, rfl, fun _ i j' h1 h2 => HR.out.2.2 i j' h1 (by omega), fun _ => rfl⟩, HR.out.1⟩
end Go.Proofs.Qxb6604040aDoor
