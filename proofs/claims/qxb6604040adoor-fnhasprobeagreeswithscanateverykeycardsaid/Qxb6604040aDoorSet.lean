/-
  The word set in memory; place.
-/
import Derived.Test.Qxb6604040aDoorPrem
import Derived.Test.Qxb6604040aDoorShelf
import Derived.Deep.WholeRow
import Derived.Laws.CopyRow
namespace Go.Proofs.Qxb6604040aDoor
open Go.RowKit

def Z38 : Array Value := Array.replicate 2048 (.int .u8 0)
theorem info38 : (Tryd.prog.info? 38).map (fun i => (i.zero, i.size)) = some (some (.agg Z38), 2048) := by kernel_rfl
theorem zero38 (w : World) : (zeroValue 38).run Tryd.prog w = .ok (.agg Z38) w := by
  obtain ⟨i, hi, hz⟩ := Option.map_eq_some_iff.1 info38
  simp only [Prod.mk.injEq] at hz
  simp [zeroValue, typeInfo, hi, hz.1, go_sem]
theorem Z38_size : Z38.size = 2048 := by simp [Z38]
theorem Z38_list : Z38.toList = List.replicate 2048 (.int .u8 0) := by unfold Z38; exact Array.toList_replicate

/-- the cells of a word set -/
def sf (wv : Value) (m : Int) (S K : Nat → Int) (i : Nat) : Value := if i = 0 then wv else if i = 1 then .int .u64 m else if i < 2050 then .int .u8 (S (i - 2)) else .int .u64 (K (i - 2050))

theorem kept_setRow (w : World) (g : Nat) (c : Array Value) : Kept (fun z => z = g) w (w.setRow g c) := by
  refine ⟨rfl, rfl, rfl, by simp [World.setRow], fun k hk hs => ?_⟩
  have : g ≠ k := fun e => hs e.symm
  simp [World.setRow, Array.getElem?_modify, this]

theorem clear_slots {w : World} {sb : Nat} {wv : Value} {m : Int} {S K : Nat → Int} (h : w.rowIs sb 48 2306 (sf wv m S K)) :
    ∃ w', (storeCells ⟨sb, 2, none⟩ Z38.toList).run Tryd.prog w = .ok () w' ∧ w'.rowIs sb 48 2306 (sf wv m (fun _ => 0) K) ∧ Kept (fun z => z = sb) w w' := by
  obtain ⟨c, hc, hs, hf⟩ := h
  have hl : Z38.toList.length = 2048 := by rw [Array.length_toList, Z38_size]
  have q := run_storeCells_at Tryd.prog sb 2 48 Z38.toList 0 c w hc (by omega) (fun v hv => by rw [Z38_list] at hv; rw [(List.mem_replicate.1 hv).2]; rfl)
  refine ⟨_, q, ⟨_, setRow_heap w sb c _ 48 _ hc, ?_, fun i hi => ?_⟩, kept_setRow w sb _⟩
  · simp [hl, hs]
  · have hci := hf i hi
    rw [List.getElem?_toArray]
    rw [← Array.getElem?_toList] at hci
    by_cases h1 : i < 2
    · rw [List.append_assoc, List.getElem?_append_left (by simp [hs]; omega), List.getElem?_take_of_lt (by omega), hci]
      unfold sf
      by_cases e0 : i = 0
      · rw [if_pos e0, if_pos e0]
      · rw [if_neg e0, if_neg e0, if_pos (by omega), if_pos (by omega)]
    · by_cases h2 : i < 2050
      · rw [List.getElem?_append_left (by simp [hs, hl]; omega), List.getElem?_append_right (by simp [hs]; omega)]
        unfold sf
        rw [if_neg (by omega), if_neg (by omega), if_pos h2]
        rw [Z38_list, List.getElem?_replicate, if_pos (by simp [hs]; omega)]
      · rw [List.getElem?_append_right (by simp [hs, hl]; omega), List.getElem?_drop]
        have e : 2 + 0 + Z38.toList.length + (i - (c.toList.take (2 + 0) ++ Z38.toList).length) = i := by simp [hs, hl]; omega
        rw [e, hci]
        unfold sf
        rw [if_neg (by omega), if_neg (by omega), if_neg h2, if_neg (by omega), if_neg (by omega), if_neg h2]

/-- what the slots hold when j words are placed -/
structure Placed (T : Nat → Int) (S : Nat → Int) (j : Nat) : Prop where
  at_ : ∀ i, i < j → S (T i).toNat = (i : Int) + 1
  only : ∀ h, h < 2048 → S h = 0 ∨ ∃ i, i < j ∧ T i = (h : Int) ∧ S h = (i : Int) + 1

theorem Placed.start (T : Nat → Int) : Placed T (fun _ => 0) 0 := ⟨fun i h => by omega, fun h _ => .inl rfl⟩
theorem Placed.snoc {T S : Nat → Int} {j hN : Nat} (h : Placed T S j) (hT : T j = (hN : Int)) (h0 : ∀ i, i < j → 0 ≤ T i) (hn : ∀ i, i < j → T i ≠ T j) : Placed T (fun x => if x = hN then (j : Int) + 1 else S x) (j + 1) := by
  refine ⟨fun i hi => ?_, fun x hx => ?_⟩
  · by_cases e : i = j
    · subst e; rw [hT]; simp
    · have h1 := hn i (by omega)
      have h2 := h0 i (by omega)
      have : (T i).toNat ≠ hN := by rw [hT] at h1; omega
      simp only [if_neg this]
      exact h.at_ i (by omega)
  · by_cases e : x = hN
    · subst e; exact .inr ⟨j, by omega, hT, by simp⟩
    · simp only [if_neg e]
      rcases h.only x hx with q | ⟨i, hi, q1, q2⟩
      · exact .inl q
      · exact .inr ⟨i, by omega, q1, q2⟩

/-- the word set at sb: its words in the row bw -/
structure SetAt (w : World) (sb bw n : Nat) (m : Int) (S : Nat → Int) (W : Nat → ByteArray) (K : Nat → Int) : Prop where
  row : w.rowIs sb 48 2306 (sf (.slice (some ⟨bw, 0, none⟩) n n) m S (fun i => if i = 0 then 0 else if i ≤ n then K (i - 1) else 0))
  words : ∀ i, i < n → w.cell? ⟨bw, i, none⟩ = some (.string (W i))
  ne : bw ≠ sb

theorem SetAt.kept {w w' : World} {sb bw n : Nat} {m : Int} {S : Nat → Int} {W : Nat → ByteArray} {K : Nat → Int} (h : SetAt w sb bw n m S W K) (k : Kept Nowhere w w') : SetAt w' sb bw n m S W K :=
  ⟨k.row h.row (fun h => h), fun i hi => k.nothing_cell (fun _ h => h) (h.words i hi), h.ne⟩

theorem sf_keys (wv : Value) (m : Int) (S K : Nat → Int) (i : Nat) : sf wv m S K (2050 + i) = .int .u64 (K i) := by
  unfold sf
  rw [if_neg (by omega), if_neg (by omega), if_neg (by omega), show 2050 + i - 2050 = i by omega]
theorem sf_slots (wv : Value) (m : Int) (S K : Nat → Int) (i : Nat) (h : i < 2048) : sf wv m S K (2 + i) = .int .u8 (S i) := by
  unfold sf
  rw [if_neg (by omega), if_neg (by omega), if_pos (by omega), show 2 + i - 2 = i by omega]

theorem sf_set (wv : Value) (m : Int) (S K : Nat → Int) (h : Nat) (hh : h < 2048) (v : Int) (i : Nat) : (if i = 2 + h then Value.int .u8 v else sf wv m S K i) = sf wv m (fun x => if x = h then v else S x) K i := by
  unfold sf
  by_cases e : i = 2 + h
  · subst e
    rw [if_pos rfl, if_neg (by omega), if_neg (by omega), if_pos (by omega), show 2 + h - 2 = h by omega]
    simp
  · rw [if_neg e]
    by_cases e0 : i = 0
    · rw [if_pos e0, if_pos e0]
    · rw [if_neg e0, if_neg e0]
      by_cases e1 : i = 1
      · rw [if_pos e1, if_pos e1]
      · rw [if_neg e1, if_neg e1]
        by_cases e2 : i < 2050
        · rw [if_pos e2, if_pos e2]
          have : ¬ i - 2 = h := by omega
          simp [this]
        · rw [if_neg e2, if_neg e2]

set_option maxRecDepth 100000 in
set_option maxHeartbeats 1000000 in
theorem place32 (sb bw n : Nat) (m : Int) (S : Nat → Int) (W : Nat → ByteArray) (K : Nat → Int) (w : World) (h : SetAt w sb bw n m S W K) (hn : n < 256) :
    Calls Tryd.prog 32 #[.pointer (some ⟨sb, 0, none⟩)] w fun e w' => ∃ S', SetAt w' sb bw n m S' W K ∧ Kept (fun z => z = sb) w w' ∧ Answers (fun r => (r = true ↔ Serves n W K m) ∧ (r = true → Placed (fun i => slotI (K i) (W i).size m) S' n)) e := by
  obtain ⟨w2, hst, hr2, hk2⟩ := clear_slots h.row
  have HW2 : Hid (SetAt w2 sb bw n m (fun _ => 0) W K ∧ Kept (fun z => z = sb) w w2) := ⟨⟨hr2, fun i hi => cell_kept hk2 (h.words i hi) h.ne, h.ne⟩, hk2⟩
  have c0 : w2.cell? ⟨sb, 0, none⟩ = some (.slice (some ⟨bw, 0, none⟩) n n) := hr2.cell (i := 0) (by omega)
  obtain ⟨T, hT⟩ : ∃ T : Nat → Int, T = fun i => slotI (K i) (W i).size m := ⟨_, rfl⟩
  rw [← hT]
  have HT : Hid (∀ i, T i = slotI (K i) (W i).size m) := fun i => by rw [hT]
  have HSv : Hid (Serves n W K m = Apart T n) := by show _ = _; unfold Serves; rw [hT]
  clear hT h hr2 hk2
  have z38 := zero38
  have zs := Z38_size
  go_enter Tryd.func32, Tryd.ntmps32
  go_wp2
  clear z38 zs hst c0
  go_loopg [15] n (fun gk v15 wr => ∃ (j : Nat) (S' : Nat → Int), j + gk = n ∧ v15 = .int .i64 j ∧ Hid (SetAt wr sb bw n m S' W K ∧ Kept (fun z => z = sb) w wr ∧ Apart T j ∧ Placed T S' j))
  case atStart => exact ⟨0, fun _ => 0, by omega, rfl, HW2.out.1, HW2.out.2, fun i j _ h => by omega, Placed.start T⟩
  case round =>
    obtain ⟨j, S', hjk, rfl, HR⟩ := hrel
    by_cases hj : j < n
    · have hjI : (j : Int) < (n : Int) := by omega
      have c1 := HR.out.1.words j hj
      have c2 : wr.cell? ⟨sb, 1, none⟩ = some (.int .u64 m) := HR.out.1.row.cell (i := 1) (by omega)
      have hj2 : (1 : Int) + (j : Int) < 256 := by omega
      have c3 : wr.cell? ⟨sb, 2050 + (1 + j), none⟩ = some (.int .u64 (K j)) := by
        rw [HR.out.1.row.cell (i := 2050 + (1 + j)) (by omega), sf_keys, if_neg (by omega), if_pos (by omega), show 1 + j - 1 = j by omega]
      obtain ⟨q, rfl⟩ : ∃ q, gk = q + 1 := ⟨gk - 1, by omega⟩
      obtain ⟨hN, hh⟩ : ∃ hN : Nat, slotI (K j) (W j).size m = hN := ⟨(slotI (K j) (W j).size m).toNat, by have := slotI_bound (K j) (W j).size m; omega⟩
      have hb2 : hN < 2048 := by have := slotI_bound (K j) (W j).size m; omega
      have hb3 : (hN : Int) < 2048 := by omega
      have HTj : Hid (T j = (hN : Int)) := by show _ = _; rw [HT.out, hh]
      have HC : Hid (Calls Tryd.prog 27 #[.pointer (some ⟨sb, 0, none⟩), .int .u64 (K j), .int .i64 ((W j).size : Nat)] wr fun e w' => e = .returned (.int .u64 (hN : Int)) ∧ w' = wr) := by rw [← hh]; exact slot27 sb (K j) (W j).size m wr c2
      have HT0 : Hid (∀ i, 0 ≤ T i) := fun i => by rw [HT.out]; exact (slotI_bound _ _ _).1
      clear hh
      have cu : wr.cell? ⟨sb, 2 + hN, none⟩ = some (.int .u8 (S' hN)) := by rw [HR.out.1.row.cell (i := 2 + hN) (by omega), sf_slots _ _ _ _ _ hb2]
      have zu := HR.out.1.row.frozen (2 + hN)
      by_cases h0 : S' hN = 0
      · rw [h0] at cu
        have HM : Hid (∀ i, i < j → T i ≠ T j) := fun i hi e => by
          have := HR.out.2.2.2.at_ i hi
          rw [e, HTj.out, Int.toNat_natCast, h0] at this
          omega
        have hu8 : IntKind.u8.wrap (1 + (j : Int)) = (j : Int) + 1 := by rw [IntKind.wrap_u8]; omega
        clear h0
        go_wp2_with (go_at_call 27; refine HC.out.mono ?_; rintro e w1 ⟨rfl, hw1⟩; subst w1)
        go_roundg q
        case measure => omega
        case rel =>
          refine ⟨j + 1, fun x => if x = hN then (j : Int) + 1 else S' x, by omega, by go_num, ⟨?_, fun i hi => ?_, HR.out.1.ne⟩, HR.out.2.1.setCell (.inl rfl) _, HR.out.2.2.1.snoc HM.out, HR.out.2.2.2.snoc HTj.out (fun i _ => HT0.out i) HM.out⟩
          · exact (HR.out.1.row.set (2 + hN) _).congr (fun i _ => sf_set _ _ _ _ _ hb2 _ _)
          · have kS := (Kept.refl (fun z => z = sb) wr).setCell (a := ⟨sb, 2 + hN, none⟩) (.inl rfl) (.int .u8 ((j : Int) + 1))
            exact cell_kept kS (HR.out.1.words i hi) HR.out.1.ne
      · have h0' : (S' hN != 0) = true := by simp [h0]
        go_wp2_with (go_at_call 27; refine HC.out.mono ?_; rintro e w1 ⟨rfl, hw1⟩; subst w1)
        go_ret
        refine ⟨S', HR.out.1, HR.out.2.1, answers rfl ⟨⟨fun h => (by cases h), fun hA => ?_⟩, fun h => by cases h⟩⟩
        rw [HSv.out] at hA
        rcases HR.out.2.2.2.only hN hb2 with q0 | ⟨i, hi, q1, _⟩
        · exact absurd q0 h0
        · exact absurd (q1.trans HTj.out.symm) (hA i j hi hj)
    · obtain rfl : j = n := by omega
      go_wp2
      go_ret
      refine ⟨S', HR.out.1, HR.out.2.1, answers rfl ⟨⟨fun _ => ?_, fun _ => rfl⟩, fun _ => HR.out.2.2.2⟩⟩
      rw [HSv.out]; exact HR.out.2.2.1
end Go.Proofs.Qxb6604040aDoor
