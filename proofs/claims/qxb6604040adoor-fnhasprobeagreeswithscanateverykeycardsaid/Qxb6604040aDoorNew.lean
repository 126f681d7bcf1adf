/-
  newWordSet.
-/
import Derived.Test.Qxb6604040aDoorSet
namespace Go.Proofs.Qxb6604040aDoor
open Go.RowKit

/-- the cells of a value -/
def aggOf : Option Value → Array Value
  | some (.agg c) => c
  | _ => #[]
def aggB : Option Value → Bool
  | some (.agg _) => true
  | _ => false
def isU8z : Value → Bool
  | .int .u8 0 => true
  | _ => false
def isU64z : Value → Bool
  | .int .u64 0 => true
  | _ => false
def okZ (c : Array Value) : Bool := match c.toList with
  | _ :: m :: l => isU64z m && (l.take 2048).all isU8z && (l.take 2048).length == 2048 && (l.drop 2048).all isU64z && (l.drop 2048).length == 256
  | _ => false
set_option maxRecDepth 1000000 in
theorem info48 : (Tryd.prog.info? 48).map (fun i => (aggB i.zero, okZ (aggOf i.zero))) = some (true, true) := by kernel_rfl
/-- the cells of an empty word set -/
theorem zero48 : ∃ c, okZ c = true ∧ ∀ w : World, (zeroValue 48).run Tryd.prog w = .ok (.agg c) w := by
  obtain ⟨i, hi, hz⟩ := Option.map_eq_some_iff.1 info48
  simp only [Prod.mk.injEq] at hz
  have : ∃ c, i.zero = some (.agg c) := by
    have h := hz.1
    unfold aggB at h
    split at h
    · next c hc => exact ⟨c, hc⟩
    · cases h
  obtain ⟨c, hc⟩ := this
  refine ⟨c, by have := hz.2; rw [hc] at this; exact this, fun w => ?_⟩
  simp [zeroValue, typeInfo, hi, hc, go_sem]

theorem isU8z_eq {v : Value} (h : isU8z v = true) : v = .int .u8 0 := by
  unfold isU8z at h
  split at h
  · rfl
  · cases h
theorem isU64z_eq {v : Value} (h : isU64z v = true) : v = .int .u64 0 := by
  unfold isU64z at h
  split at h
  · rfl
  · cases h

theorem Z48_cells {c : Array Value} (h : okZ c = true) : c.size = 2306 ∧ ∀ i, 1 ≤ i → i < 2306 → c[i]? = some (sf undef 0 (fun _ => 0) (fun _ => 0) i) := by
  unfold okZ at h
  rw [← Array.length_toList]
  simp only [← Array.getElem?_toList]
  generalize c.toList = L at *
  match L, h with
  | x :: m :: l, h =>
    simp only [Bool.and_eq_true, beq_iff_eq] at h
    obtain ⟨⟨⟨⟨h1, h2⟩, h3⟩, h4⟩, h5⟩ := h
    have hl : l.length = 2304 := by
      rw [List.length_take] at h3
      rw [List.length_drop] at h5
      omega
    refine ⟨by simp [hl], fun i h0 hi => ?_⟩
    by_cases e1 : i = 1
    · subst e1
      rw [isU64z_eq h1]
      rfl
    · obtain ⟨k, rfl⟩ : ∃ k, i = k + 2 := ⟨i - 2, by omega⟩
      have hk : k < l.length := by omega
      show l[k]? = _
      unfold sf
      rw [if_neg (by omega), if_neg (by omega)]
      by_cases e2 : k < 2048
      · rw [if_pos (by omega)]
        have hm : l[k] ∈ l.take 2048 := by
          rw [List.mem_iff_getElem?]
          exact ⟨k, by rw [List.getElem?_take_of_lt e2, List.getElem?_eq_getElem hk]⟩
        rw [List.getElem?_eq_getElem hk, isU8z_eq (List.all_eq_true.1 h2 _ hm)]
      · rw [if_neg (by omega)]
        have hm : l[k] ∈ l.drop 2048 := by
          rw [List.mem_iff_getElem?]
          exact ⟨k - 2048, by rw [List.getElem?_drop, show 2048 + (k - 2048) = k by omega, List.getElem?_eq_getElem hk]⟩
        rw [List.getElem?_eq_getElem hk, isU64z_eq (List.all_eq_true.1 h4 _ hm)]

/-- strings.Fields, as newWordSet calls it -/
def FieldsAt (s : ByteArray) (w : World) : Prop :=
  Calls Tryd.prog 31 #[.string s] w fun e w' => e = .returned (.slice (some ⟨w.heap.size, 0, none⟩) (nWords s) (nWords s)) ∧ Kept Nowhere w w' ∧ w'.heap.size = w.heap.size + 1 ∧ ∀ i, i < nWords s → w'.cell? ⟨w.heap.size, i, none⟩ = some (.string (wordAt s i))

theorem kept_after {S : Nat → Prop} {w wi w2 : World} (h : Kept Nowhere w wi) (k : Kept S wi w2) (hS : ∀ z, S z → w.heap.size ≤ z) : Kept Nowhere w w2 :=
  ⟨k.os.trans h.os, k.tape.trans h.tape, k.output.trans h.output, Nat.le_trans h.size k.size, fun i hi hs => (k.block i (Nat.lt_of_lt_of_le hi h.size) (fun q => by have := hS i q; omega)).trans (h.block i hi hs)⟩

theorem sf_key_set (wv : Value) (m : Int) (S : Nat → Int) (F : Nat → Int) (j : Nat) (i : Nat) : (if i = 2050 + (1 + j) then Value.int .u64 (F j) else sf wv m S (fun i => if i = 0 then 0 else if i ≤ j then F (i - 1) else 0) i) = sf wv m S (fun i => if i = 0 then 0 else if i ≤ j + 1 then F (i - 1) else 0) i := by
  unfold sf
  by_cases e : i = 2050 + (1 + j)
  · subst e
    rw [if_pos rfl, if_neg (by omega), if_neg (by omega), if_neg (by omega)]
    dsimp only
    rw [if_neg (by omega), if_pos (by omega), show 2050 + (1 + j) - 2050 - 1 = j by omega]
  · rw [if_neg e]
    by_cases e0 : i = 0
    · rw [if_pos e0, if_pos e0]
    · rw [if_neg e0, if_neg e0]
      by_cases e1 : i = 1
      · rw [if_pos e1, if_pos e1]
      · rw [if_neg e1, if_neg e1]
        by_cases e2 : i < 2050
        · rw [if_pos e2, if_pos e2]
        · rw [if_neg e2, if_neg e2]
          dsimp only
          by_cases e3 : i - 2050 = 0
          · rw [if_pos e3, if_pos e3]
          · rw [if_neg e3, if_neg e3]
            by_cases e4 : i - 2050 ≤ j
            · rw [if_pos e4, if_pos (by omega)]
            · rw [if_neg e4, if_neg (by omega)]

theorem sf_mul_set (wv : Value) (m m' : Int) (S K : Nat → Int) (i : Nat) : (if i = 1 then Value.int .u64 m' else sf wv m S K i) = sf wv m' S K i := by
  unfold sf
  by_cases e1 : i = 1
  · subst e1; rfl
  · rw [if_neg e1]
    by_cases e0 : i = 0
    · rw [if_pos e0, if_pos e0]
    · rw [if_neg e0, if_neg e0, if_neg e1, if_neg e1]

set_option maxRecDepth 100000 in
set_option maxHeartbeats 1000000 in
theorem new23 (s : ByteArray) (t : Nat) (w : World) (hb : s.size ≤ 1048576) (hC : FieldsAt s w) (hP : Prem s t) :
    Calls Tryd.prog 23 #[.string s] w fun e w' => (∃ sb bw S, e = .returned (.pointer (some ⟨sb, 0, none⟩)) ∧ SetAt w' sb bw (nWords s) (mulT t) S (wordAt s) (keyAt s) ∧ Placed (fun i => slotI (keyAt s i) (wordAt s i).size (mulT t)) S (nWords s)) ∧ Kept Nowhere w w' := by
  have HC : Hid (FieldsAt s w) := hC
  have HP : Hid (Prem s t) := hP
  clear hC hP
  obtain ⟨n, hn⟩ : ∃ n, nWords s = n := ⟨_, rfl⟩
  have HN : Hid (nWords s = n) := hn
  have h256 : (n : Int) < 256 := by have := HP.out.few; omega
  rw [hn]
  obtain ⟨Z48, hZ, z48⟩ := zero48
  have HZ0 : Hid (Z48.size = 2306 ∧ ∀ i, 1 ≤ i → i < 2306 → Z48[i]? = some (sf undef 0 (fun _ => 0) (fun _ => 0) i)) := Z48_cells hZ
  have hs := HZ0.out.1
  have hne : ¬ Z48 = #[] := by intro e; rw [e] at hs; simp at hs
  clear hZ
  have HF : Hid (Calls Tryd.prog 31 #[.string s] w fun e w' => e = .returned (.slice (some ⟨w.heap.size, 0, none⟩) n n) ∧ Kept Nowhere w w' ∧ w'.heap.size = w.heap.size + 1 ∧ ∀ i, i < n → w'.cell? ⟨w.heap.size, i, none⟩ = some (.string (wordAt s i))) := by
    have := HC.out
    unfold FieldsAt at this
    rw [hn] at this
    exact this
  clear hn
  go_enter Tryd.func23, Tryd.ntmps23
  go_upto_region 2 with (go_at_call 31; refine HF.out.mono ?_; rintro e w1 ⟨rfl, hk1, hsz, hws⟩)
  have hr0 : (w1.alloc (.cells (Z48.setIfInBounds 0 (.slice (some ⟨w.heap.size, 0, none⟩) n n)) 48)).rowIs (w.heap.size + 1) 48 2306 (sf (.slice (some ⟨w.heap.size, 0, none⟩) n n) 0 (fun _ => 0) (fun i => if i = 0 then 0 else if i ≤ 0 then keyAt s (i - 1) else 0)) := by
    have q := World.rowIs_alloc w1 (Z48.setIfInBounds 0 (.slice (some ⟨w.heap.size, 0, none⟩) n n)) 48 (sf (.slice (some ⟨w.heap.size, 0, none⟩) n n) 0 (fun _ => 0) (fun i => if i = 0 then 0 else if i ≤ 0 then keyAt s (i - 1) else 0)) (fun i hi => by
      rw [Array.size_setIfInBounds, HZ0.out.1] at hi
      by_cases e0 : i = 0
      · subst e0
        rw [Array.getElem?_setIfInBounds_self_of_lt (by rw [HZ0.out.1]; omega)]
        rfl
      · rw [Array.getElem?_setIfInBounds_ne (Ne.symm e0), HZ0.out.2 i (by omega) hi]
        congr 1
        unfold sf
        rw [if_neg e0, if_neg e0]
        by_cases e1 : i = 1
        · rw [if_pos e1, if_pos e1]
        · rw [if_neg e1, if_neg e1]
          by_cases e2 : i < 2050
          · rw [if_pos e2, if_pos e2]
          · rw [if_neg e2, if_neg e2]
            congr 1
            dsimp only
            by_cases e3 : i - 2050 = 0
            · rw [if_pos e3]
            · rw [if_neg e3, if_neg (by omega)])
    rw [Array.size_setIfInBounds, HZ0.out.1, hsz] at q
    exact q
  have hw0 : ∀ i, i < n → (w1.alloc (.cells (Z48.setIfInBounds 0 (.slice (some ⟨w.heap.size, 0, none⟩) n n)) 48)).cell? ⟨w.heap.size, i, none⟩ = some (.string (wordAt s i)) := fun i hi => ((Kept.refl Nowhere w1).alloc _).nothing_cell (fun _ h => h) (hws i hi)
  have hk0 := hk1.alloc (.cells (Z48.setIfInBounds 0 (.slice (some ⟨w.heap.size, 0, none⟩) n n)) 48)
  revert hr0 hw0 hk0
  generalize World.alloc _ _ = wz
  generalize Z48.setIfInBounds _ _ = zz
  intro hr0 hw0 hk0
  have HZ : Hid (wz.rowIs (w.heap.size + 1) 48 2306 (sf (.slice (some ⟨w.heap.size, 0, none⟩) n n) 0 (fun _ => 0) (fun i => if i = 0 then 0 else if i ≤ 0 then keyAt s (i - 1) else 0)) ∧ (∀ i, i < n → wz.cell? ⟨w.heap.size, i, none⟩ = some (.string (wordAt s i))) ∧ Kept Nowhere w wz) := ⟨hr0, hw0, hk0⟩
  have c0 : wz.cell? ⟨w.heap.size + 1, 0, none⟩ = some (.slice (some ⟨w.heap.size, 0, none⟩) n n) := hr0.cell (i := 0) (by omega)
  clear hr0 hw0 hk0 hk1 hsz hws z48 hs HF hne
  go_wp2
  clear c0
  go_loopg [23] n (fun gk v23 wr => ∃ j : Nat, j + gk = n ∧ v23 = .int .i64 j ∧ Hid (wr.rowIs (w.heap.size + 1) 48 2306 (sf (.slice (some ⟨w.heap.size, 0, none⟩) n n) 0 (fun _ => 0) (fun i => if i = 0 then 0 else if i ≤ j then keyAt s (i - 1) else 0)) ∧ (∀ i, i < n → wr.cell? ⟨w.heap.size, i, none⟩ = some (.string (wordAt s i))) ∧ Kept Nowhere w wr))
  case atStart => exact ⟨0, by omega, rfl, HZ.out⟩
  case round =>
    obtain ⟨j, hjk, rfl, HR⟩ := hrel
    by_cases hj : j < n
    · have hjI : (j : Int) < (n : Int) := by omega
      have c1 := HR.out.2.1 j hj
      have hsz : (wordAt s j).size ≤ 1048576 := by have := wordAt_size (s := s) (i := j) (by have := HN.out; omega); omega
      obtain ⟨wj, hwj⟩ : ∃ x, wordAt s j = x := ⟨_, rfl⟩
      rw [hwj] at c1 hsz
      obtain ⟨kj, hkj⟩ : ∃ x, keyOf wj = x := ⟨_, rfl⟩
      have HKj : Hid (keyAt s j = kj) := by show keyOf (wordAt s j) = _; rw [hwj, hkj]
      have HC2 : Hid (∀ W, Calls Tryd.prog 25 #[.string wj] W fun e w' => e = .returned (.int .u64 kj) ∧ w' = W) := fun W => by rw [← hkj]; exact key25 wj W hsz
      obtain ⟨j1, hj1⟩ : ∃ j1, 1 + j = j1 := ⟨_, rfl⟩
      have hj2 : (j1 : Int) < 256 := by omega
      have hwr : IntKind.i64.wrap (1 + (j : Int)) = (j1 : Int) := by rw [IntKind.wrap_i64]; omega
      have HJ1 : Hid (1 + j = j1) := hj1
      have g3 := HR.out.1.cell (i := 2050 + j1) (by omega)
      have z3 := HR.out.1.frozen (2050 + j1)
      clear hj1
      obtain ⟨q, rfl⟩ : ∃ q, gk = q + 1 := ⟨gk - 1, by omega⟩
      clear hwj hkj
      go_wp2
      go_region_with (go_at_call 25; refine (HC2.out _).mono ?_; rintro e w2 ⟨rfl, hw2⟩; subst w2)
      all_goals
        go_wp2
        go_roundg q
        case measure => omega
        case rel =>
          have kS := ((Kept.refl (fun z => z = w.heap.size + 1) wr).setCell (a := ⟨w.heap.size + 1, 2050 + j1, none⟩) (.inl rfl) (.int .u64 kj)).drew
          refine ⟨j + 1, by omega, by go_num, ((HR.out.1.set (2050 + j1) _).congr (fun i _ => ?_)).drew, fun i hi => cell_kept kS (HR.out.2.1 i hi) (by intro (hq : _ = _); omega), (HR.out.2.2.setCell (.inr (by show _ ≤ _ + 1; omega)) _).drew⟩
          have e := sf_key_set (.slice (some ⟨w.heap.size, 0, none⟩) n n) 0 (fun _ => 0) (keyAt s) j i
          rw [HKj.out, HJ1.out] at e
          exact e
    · obtain rfl : j = n := by omega
      have g1 := HR.out.1.cell (i := 1) (by omega)
      have z1 := HR.out.1.frozen 1
      go_upto_region 10 with (fail)
      have hr1 := (HR.out.1.set 1 (.int .u64 11400714819323198485)).congr (fun i _ => sf_mul_set _ _ _ _ _ i)
      have kS := (Kept.refl (fun z => z = w.heap.size + 1) wr).setCell (a := ⟨w.heap.size + 1, 1, none⟩) (.inl rfl) (.int .u64 11400714819323198485)
      have hk2 := HR.out.2.2.setCell (a := ⟨w.heap.size + 1, 1, none⟩) (.inr (by show _ ≤ _ + 1; omega)) (.int .u64 11400714819323198485)
      revert hr1 kS hk2
      generalize World.setCell _ _ _ = wy
      intro hr1 kS hk2
      have HY : Hid (SetAt wy (w.heap.size + 1) w.heap.size j (mulT 0) (fun _ => 0) (wordAt s) (keyAt s) ∧ Kept Nowhere w wy) := ⟨⟨hr1, fun i hi => cell_kept kS (HR.out.2.1 i hi) (by intro (hq : _ = _); omega), by omega⟩, hk2⟩
      clear hr1 kS hk2 g1 z1
      go_wp2
      go_loopg [6] (t + 1) (fun gk v6 wi => ∃ (u : Nat) (S : Nat → Int), u + gk = t + 1 ∧ v6 = .int .i64 u ∧ u ≤ t ∧ Hid (SetAt wi (w.heap.size + 1) w.heap.size j (mulT u) S (wordAt s) (keyAt s) ∧ Kept Nowhere w wi))
      case atStart => exact ⟨0, _, by omega, rfl, by omega, HY.out⟩
      case round =>
        obtain ⟨u, S, huk, rfl, hut, HU⟩ := hrel
        rename World => wi
        have hj256 : j < 256 := by omega
        obtain ⟨mu, hmu⟩ : ∃ mu, mulT u = mu := ⟨_, rfl⟩
        rw [hmu] at HU
        have HMu : Hid (mulT u = mu) := hmu
        have HPl : Hid (Calls Tryd.prog 32 _ wi _) := place32 (w.heap.size + 1) w.heap.size j mu S (wordAt s) (keyAt s) wi HU.out.1 hj256
        clear hmu
        by_cases hu : u < t
        · have HNs : Hid (¬ Serves j (wordAt s) (keyAt s) mu) := by
            have := HP.out.first.2.2 u hu
            rw [HN.out, HMu.out] at this
            exact this
          have hub : (u : Int) < 65536 := by have := HP.out.first.1; omega
          have hue : ((u : Int) == 65536) = false := by simp; omega
          obtain ⟨q, rfl⟩ : ∃ q, gk = q + 1 := ⟨gk - 1, by omega⟩
          go_wp2_with (go_at_call 32; refine HPl.out.mono ?_; rintro e w2 ⟨S', hset, hk2, r, rfl, hr1, hr2⟩; obtain rfl : r = false := (by cases r; rfl; exact absurd (hr1.1 rfl) HNs.out); have HS2 : Hid (SetAt w2 (w.heap.size + 1) w.heap.size j mu S' (wordAt s) (keyAt s) ∧ Kept Nowhere w w2) := ⟨hset, kept_after HU.out.2 hk2 (fun z hz => by omega)⟩; have c1 : w2.cell? ⟨w.heap.size + 1, 1, none⟩ = some (.int .u64 mu) := hset.row.cell (i := 1) (by omega); have z1 := hset.row.frozen 1; clear hset hk2 hr1 hr2)
          go_roundg q
          case measure => omega
          case rel =>
            have kS := (Kept.refl (fun z => z = w.heap.size + 1) w2).setCell (a := ⟨w.heap.size + 1, 1, none⟩) (.inl rfl) (.int .u64 (IntKind.u64.wrap (mu + 7146057691288625178)))
            refine ⟨u + 1, S', by omega, by go_num, by omega, ⟨?_, fun i hi => cell_kept kS (HS2.out.1.words i hi) HS2.out.1.ne, HS2.out.1.ne⟩, HS2.out.2.setCell (.inr (by show _ ≤ _ + 1; omega)) _⟩
            show World.rowIs _ _ _ _ (sf _ (IntKind.u64.wrap (mulT u + 7146057691288625178)) _ _)
            rw [HMu.out]
            exact (HS2.out.1.row.set 1 _).congr (fun i _ => sf_mul_set _ _ _ _ _ i)
        · obtain rfl : u = t := by omega
          have HSv : Hid (Serves j (wordAt s) (keyAt s) mu) := by
            have := HP.out.first.2.1
            rw [HN.out, HMu.out] at this
            exact this
          go_wp2_with (go_at_call 32; refine HPl.out.mono ?_; rintro e w2 ⟨S', hset, hk2, r, rfl, hr1, hr2⟩; obtain rfl : r = true := hr1.2 HSv.out)
          go_ret
          refine ⟨⟨w.heap.size + 1, w.heap.size, S', rfl, ?_, ?_⟩, ?_⟩
          · rw [HMu.out]; exact hset
          · rw [HMu.out]; exact hr2 (by first | rfl | trivial)
          · exact kept_after HU.out.2 hk2 (fun z hz => by omega)
end Go.Proofs.Qxb6604040aDoor
