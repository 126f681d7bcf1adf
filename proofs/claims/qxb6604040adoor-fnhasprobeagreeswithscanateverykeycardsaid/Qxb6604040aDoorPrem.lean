/-
  The words of a list: their bytes; wordSetPremise.
-/
import Derived.Test.Qxb6604040aDoorSplit
import Derived.Test.Qxb6604040aDoorMul
import Derived.Lib.SliceRun
namespace Go.Proofs.Qxb6604040aDoor
open Go.RowKit

theorem fieldsGo_mem : ∀ (L cur : List UInt8) (l : List UInt8), l ∈ Lib.fieldsGo cur L → l.length ≤ cur.length + L.length ∧ ∀ b, b ∈ l → b ∈ cur ∨ (b ∈ L ∧ Lib.isSp b = false)
  | [], cur, l, h => by
    cases cur with
    | nil => simp [Lib.fieldsGo] at h
    | cons x y => simp [Lib.fieldsGo] at h; subst h; exact ⟨by simp, fun b hb => .inl hb⟩
  | x :: L, cur, l, h => by
    cases hx : Lib.isSp x with
    | true =>
      cases cur with
      | nil =>
        rw [Lib.fieldsGo_sp _ _ hx] at h
        obtain ⟨h1, h2⟩ := fieldsGo_mem L [] l h
        refine ⟨by simp at h1 ⊢; omega, fun b hb => ?_⟩
        rcases h2 b hb with q | q
        · exact .inl q
        · exact .inr ⟨List.mem_cons_of_mem _ q.1, q.2⟩
      | cons y z =>
        rw [Lib.fieldsGo_end _ _ _ hx (by simp)] at h
        rcases List.mem_cons.1 h with rfl | h
        · exact ⟨by simp, fun b hb => .inl hb⟩
        · obtain ⟨h1, h2⟩ := fieldsGo_mem L [] l h
          refine ⟨by simp at h1 ⊢; omega, fun b hb => ?_⟩
          rcases h2 b hb with q | q
          · cases q
          · exact .inr ⟨List.mem_cons_of_mem _ q.1, q.2⟩
    | false =>
      rw [Lib.fieldsGo_more _ _ _ hx] at h
      obtain ⟨h1, h2⟩ := fieldsGo_mem L (cur ++ [x]) l h
      refine ⟨by simp at h1 ⊢; omega, fun b hb => ?_⟩
      rcases h2 b hb with q | q
      · rcases List.mem_append.1 q with q | q
        · exact .inl q
        · simp at q; subst q; exact .inr ⟨List.mem_cons_self, hx⟩
      · exact .inr ⟨List.mem_cons_of_mem _ q.1, q.2⟩

/-- a word: letters and underscores alone -/
def WordOK (s : ByteArray) : Prop := ∀ i, i < s.size → isWdI (by8 s i) = true

theorem wordAt_mem {s : ByteArray} {i : Nat} (h : i < nWords s) : (Lib.fields s.data.toList).getD i [] ∈ Lib.fields s.data.toList := by
  unfold nWords at h
  rw [List.getD_eq_getElem?_getD, List.getElem?_eq_getElem h]
  exact List.getElem_mem h

theorem wordAt_size {s : ByteArray} {i : Nat} (h : i < nWords s) : (wordAt s i).size ≤ s.size := by
  have := (fieldsGo_mem _ _ _ (wordAt_mem h)).1
  rw [Lib.size_eq, Lib.size_eq s]
  simpa [wordAt] using this

theorem wordAt_ok {s : ByteArray} {i : Nat} (h : i < nWords s) (hd : InDom s s.size) : WordOK (wordAt s i) := by
  intro k hk
  have hm := Lib.data_getElem? (wordAt s i) k hk
  have hm2 : (wordAt s i)[k] ∈ (wordAt s i).data.toList := List.mem_of_getElem? hm
  have e : (wordAt s i).data.toList = (Lib.fields s.data.toList).getD i [] := by simp [wordAt]
  rw [e] at hm2
  rcases (fieldsGo_mem _ _ _ (wordAt_mem h)).2 _ hm2 with q | ⟨q1, q2⟩
  · cases q
  · obtain ⟨j, hj⟩ := List.mem_iff_getElem?.1 q1
    have hjl : j < s.size := by
      rw [Lib.size_eq]
      exact (List.getElem?_eq_some_iff.1 hj).1
    have hs := Lib.data_getElem? s j hjl
    have heq : s[j] = (wordAt s i)[k] := Option.some.inj (hs.symm.trans hj)
    have hb : by8 s j = by8 (wordAt s i) k := by rw [← by8_eq hjl, ← by8_eq hk, heq]
    rcases hd j hjl with q | q
    · rw [← hb]; exact q
    · rw [← by8_eq hjl, heq, isSp_eq, q2] at q
      cases q

theorem Tryd.info25 : (Tryd.prog.info? 25).map (fun i => (i.zero, i.size, i.bytes)) = some (some (.int .u64 0), 1, 8) := by kernel_rfl

/-- the key of word i -/
def keyAt (s : ByteArray) (i : Nat) : Int := keyOf (wordAt s i)

/-- what the premise gives -/
structure Prem (s : ByteArray) (t : Nat) : Prop where
  dom : InDom s s.size
  few : nWords s < 256
  first : First (Serves (nWords s) (wordAt s) (keyAt s)) t

set_option maxRecDepth 100000 in
set_option maxHeartbeats 1000000 in
theorem prem7 (s : ByteArray) (w : World) (hb : s.size ≤ 1048576) :
    Calls Tryd.prog 7 #[.string s] w fun e w' => (e = .returned (.tuple #[.slice none 0 0, .slice none 0 0, .int .u64 0, .bool false]) ∨ ∃ aw kw ak kk t, e = .returned (.tuple #[.slice aw (nWords s) kw, .slice ak (nWords s) kk, .int .u64 (mulT t), .bool true]) ∧ StrsAt w' aw (nWords s) (wordAt s) ∧ KeysAt w' ak (nWords s) (keyAt s) ∧ Prem s t) ∧ Kept Nowhere w w' := by
  have HD : Hid (Calls Tryd.prog 20 _ w _) := domain20 s w hb
  have HSp : Hid (Calls Tryd.prog 21 _ w _) := split21 s w hb
  obtain ⟨n, hn⟩ : ∃ n, nWords s = n := ⟨_, rfl⟩
  rw [hn]
  rw [hn] at HSp
  have HN : Hid (nWords s = n) := hn
  clear hn
  go_enter Tryd.func7, Tryd.ntmps7
  go_upto_region 3 with (go_at_call 20; refine HD.out.mono ?_; rintro e w1 ⟨⟨r, rfl, hdom⟩, hw1⟩; subst w1; cases r)
  · exact bodyPost_ret (v := .tuple #[.slice none 0 0, .slice none 0 0, .int .u64 0, .bool false]) (by simp [results, Tryd.results7, go_sem]) rfl ⟨.inl rfl, Kept.refl _ _⟩
  have HDom : Hid (InDom s s.size) := hdom (by first | rfl | trivial)
  clear hdom HD
  go_upto_region 4 with (go_at_call 21; refine HSp.out.mono ?_; rintro e w1 ⟨⟨aw, kw, rfl, hst⟩, hk1⟩)
  have HSt : Hid (StrsAt w1 aw n (wordAt s)) := hst
  have HK1 : Hid (Kept Nowhere w w1) := hk1
  clear hst hk1 HSp
  by_cases h256 : (n : Int) < 256
  · have mk := run_make_row' (P := Tryd.prog) 24 25 (.int .u64 0) 8 Tryd.underlying24 Tryd.info25 rfl .i64 .i64 n (by omega) (by omega)
    go_wp2
    clear mk
    go_loopg [8] n (fun gk v8 wr => ∃ j : Nat, j + gk = n ∧ v8 = .int .i64 j ∧ Hid (Kept Nowhere w1 wr ∧ wr.rowIs w1.heap.size 25 n (fun i => if i < j then .int .u64 (keyAt s i) else .int .u64 0)))
    case atStart => exact ⟨0, by omega, rfl, (Kept.refl _ _).alloc _, (World.rowIs_made w1 (.int .u64 0) n 25).congr (fun i _ => by simp)⟩
    case round =>
      obtain ⟨j, hjk, rfl, HR⟩ := hrel
      by_cases hj : j < n
      · have hjI : (j : Int) < (n : Int) := by omega
        obtain ⟨b1, o1, rfl, hc1⟩ := HSt.out (by omega)
        have c1 := HR.out.1.nothing_cell (fun _ h => h) (hc1 j hj)
        have g1 : wr.cell? ⟨w1.heap.size, j, none⟩ = some (.int .u64 0) := by
          have := HR.out.2.cell hj
          rwa [if_neg (Nat.lt_irrefl _)] at this
        have z1 := HR.out.2.frozen j
        have hsz : (wordAt s j).size ≤ 1048576 := by have := wordAt_size (s := s) (i := j) (by have := HN.out; omega); omega
        obtain ⟨q, rfl⟩ : ∃ q, gk = q + 1 := ⟨gk - 1, by omega⟩
        obtain ⟨wj, hwj⟩ : ∃ x, wordAt s j = x := ⟨_, rfl⟩
        rw [hwj] at c1 hsz
        have HWj : Hid (keyAt s j = keyOf wj) := by show keyOf (wordAt s j) = _; rw [hwj]
        obtain ⟨kj, hkj⟩ : ∃ x, keyOf wj = x := ⟨_, rfl⟩
        have HC : Hid (Calls Tryd.prog 10 #[.string wj] wr fun e w' => e = .returned (.int .u64 kj) ∧ w' = wr) := by rw [← hkj]; exact zkey10 wj wr hsz
        have HKj : Hid (keyAt s j = kj) := by show _ = _; rw [HWj.out, hkj]
        clear hc1 hwj hkj
        go_wp2_with (go_at_call 10; refine HC.out.mono ?_; rintro e w2 ⟨rfl, hw2⟩; subst w2)
        go_roundg q
        case measure => omega
        case rel =>
          refine ⟨j + 1, by omega, by go_num, HR.out.1.setCell (.inr (Nat.le_refl _)) _, (HR.out.2.set j _).congr (fun i _ => ?_)⟩
          by_cases e : i = j
          · subst e; rw [if_pos rfl, if_pos (by omega), HKj.out]
          · rw [if_neg e]
            by_cases h1 : i < j
            · rw [if_pos h1, if_pos (by omega)]
            · rw [if_neg h1, if_neg (by omega)]
      · obtain rfl : j = n := by omega
        have HKe : Hid (KeysAt wr (some ⟨w1.heap.size, 0, none⟩) j (keyAt s)) := fun _ => ⟨w1.heap.size, 0, rfl, fun i hi => by
          rw [Nat.zero_add]
          have := HR.out.2.cell hi
          rwa [if_pos hi] at this⟩
        have HC : Hid (Calls Tryd.prog 22 _ wr _) := first22 aw (some ⟨w1.heap.size, 0, none⟩) j kw j (wordAt s) (keyAt s) wr (HSt.out.kept HR.out.1) HKe.out (by omega)
        go_wp2_with (go_at_call 22; refine HC.out.mono ?_; rintro e w2 ⟨hr, hk2⟩; have HK2 : Hid (Kept Nowhere wr w2) := hk2; clear hk2; rcases hr with ⟨t, hf, rfl⟩ | ⟨m, rfl⟩)
        · refine bodyPost_ret (v := .tuple #[.slice aw j kw, .slice (some ⟨w1.heap.size, 0, none⟩) j j, .int .u64 (mulT t), .bool true]) (by simp [results, Tryd.results7, go_sem]) rfl ⟨.inr ⟨aw, kw, _, _, t, rfl, (HSt.out.kept HR.out.1).kept HK2.out, HKe.out.kept HK2.out, HDom.out, by rw [HN.out]; omega, ?_⟩, (HK1.out.trans HR.out.1).trans HK2.out⟩
          rw [HN.out]; exact hf
        · exact bodyPost_ret (v := .tuple #[.slice none 0 0, .slice none 0 0, .int .u64 0, .bool false]) (by simp [results, Tryd.results7, go_sem]) rfl ⟨.inl rfl, (HK1.out.trans HR.out.1).trans HK2.out⟩
  · have h256' : (256 : Int) ≤ (n : Int) := by omega
    go_wp2
    exact bodyPost_ret (v := .tuple #[.slice none 0 0, .slice none 0 0, .int .u64 0, .bool false]) (by simp [results, Tryd.results7, go_sem]) rfl ⟨.inl rfl, HK1.out⟩
end Go.Proofs.Qxb6604040aDoor
