/-
  splitWords: the maximal runs of bytes that are no spaces: as strings.Fields has them.
-/
import Derived.Test.Qxb6604040aDoorPlace
import Derived.Lib.FieldsLaws
import Derived.Deep.CutRange
import Derived.Deep.DeepCutAuto
namespace Go.Proofs.Qxb6604040aDoor
open Go.RowKit

theorem isSp_nat : ∀ n : Nat, n < 256 → isSpI (n : Int) = Lib.isSp (UInt8.ofNat n) := by decide +kernel
theorem isSp_eq (b : UInt8) : isSpI (b.toNat : Int) = Lib.isSp b := by
  have := isSp_nat b.toNat b.toNat_lt
  rwa [UInt8.ofNat_toNat] at this

theorem by8_at {s : ByteArray} {i : Nat} (h : i < s.size) : s.data.toList[i]? = some s[i] ∧ isSpI (by8 s i) = Lib.isSp s[i] := by
  refine ⟨Lib.data_getElem? s i h, ?_⟩
  rw [← by8_eq h, isSp_eq]

theorem info_parts {P : Program} {e : TypeId} {z : Value} {size bytes : Nat} (h : (P.info? e).map (fun i => (i.zero, i.size, i.bytes)) = some (some z, size, bytes)) : ∃ i, P.info? e = some i ∧ i.zero = some z ∧ i.size = size ∧ i.bytes = bytes := by
  obtain ⟨i, hi, hz⟩ := Option.map_eq_some_iff.1 h
  simp only [Prod.mk.injEq] at hz
  exact ⟨i, hi, hz.1, hz.2.1, hz.2.2⟩
theorem cell_new0 (w : World) (v : Value) (t n : Nat) (hn : n = w.heap.size) : (w.alloc (.cells #[v] t)).cell? ⟨n, 0, none⟩ = some v := by
  subst hn
  rw [World.cell?_alloc_at _ _ _ _ rfl]; rfl
theorem owns_base {base e size k : Nat} {w : World} {v : Value} {n : Nat} {xs : List Value} (h : w.ownsRow base e size v n xs) (hk : v.ownBlock = some k) : base ≤ k := by
  rcases h.2 with ⟨rfl, _⟩ | ⟨g, cap, cur, rfl, hb, _⟩
  · cases hk
  · simp [Value.ownBlock] at hk; omega
theorem grownS {w wi w3 : World} {ob : Obj} {v v3 : Value} {n m : Nat} {xs ys : List Value} (k : Kept Nowhere w wi) (ho : wi.ownsRow w.heap.size 9 1 v n xs) (h3 : w3.ownsRow w.heap.size 9 1 v3 m ys) (hg : (wi.alloc ob).grownBy w3 v.ownBlock) : Hid (Kept Nowhere w w3 ∧ w3.ownsRow w.heap.size 9 1 v3 m ys) :=
  ⟨(k.alloc _).grown hg (fun _ hk => .inr (owns_base ho hk)), h3⟩

theorem Tryd.info9 : (Tryd.prog.info? 9).map (fun i => (i.zero, i.size, i.bytes)) = some (some (.string ByteArray.empty), 1, 16) := by kernel_rfl

/-- word i of a list -/
def wordAt (s : ByteArray) (i : Nat) : ByteArray := ⟨((Lib.fields s.data.toList).getD i []).toArray⟩
def nWords (s : ByteArray) : Nat := (Lib.fields s.data.toList).length

theorem owns_strs {w : World} {base : Nat} {a : Option Addr} {l k : Nat} {D : List ByteArray} (h : w.ownsRow base 9 1 (.slice a l k) D.length (D.map Value.string)) : l = D.length ∧ StrsAt w a D.length (fun i => D.getD i ByteArray.empty) := by
  rcases h.2 with ⟨h1, h0⟩ | ⟨g, cap, cur, hv, hb, hg, hle, hmx, hsz, htk⟩
  · simp at h1
    obtain ⟨rfl, rfl, rfl⟩ := h1
    exact ⟨h0.symm, fun hn => absurd h0 hn⟩
  · simp at hv
    obtain ⟨rfl, rfl, rfl⟩ := hv
    refine ⟨rfl, fun _ => ⟨g, 0, rfl, fun j hj => ?_⟩⟩
    rw [Nat.zero_add, h.cellAt j (by omega)]
    simp [List.getD_eq_getElem?_getD, List.getElem?_eq_getElem hj]

theorem extract_list (s : ByteArray) (i j : Nat) : (s.extract i j).data.toList = (s.data.toList.drop i).take (j - i) := by
  simp [ByteArray.data_extract]

set_option maxRecDepth 100000 in
set_option maxHeartbeats 1000000 in
theorem split21 (s : ByteArray) (w : World) (hb : s.size ≤ 1048576) :
    Calls Tryd.prog 21 #[.string s] w fun e w' => (∃ a k, e = .returned (.slice a (nWords s) k) ∧ StrsAt w' a (nWords s) (wordAt s)) ∧ Kept Nowhere w w' := by
  obtain ⟨i0, hii, hz0, hz1, hz2⟩ := info_parts Tryd.info9
  have HI : Hid (Tryd.prog.info? 9 = some i0 ∧ i0.zero = some (.string ByteArray.empty) ∧ i0.size = 1 ∧ i0.bytes = 16) := ⟨hii, hz0, hz1, hz2⟩
  clear hii hz0 hz1 hz2
  have HLn : Hid (s.data.toList.length = s.size) := (Lib.size_eq s).symm
  go_enter Tryd.func21, Tryd.ntmps21
  go_wp2
  go_loopg [3, 4] s.size (fun gk v3 v4 wr => ∃ (i : Nat) (a : Option Addr) (l k : Nat) (D : List ByteArray), s.size - i = gk ∧ i ≤ s.size ∧ v4 = .int .i64 i ∧ v3 = .slice a l k ∧ Hid (Kept Nowhere w wr ∧ wr.ownsRow w.heap.size 9 1 (.slice a l k) D.length (D.map Value.string) ∧ D.map (·.data.toList) ++ Lib.fieldsGo [] (s.data.toList.drop i) = Lib.fields s.data.toList ∧ D.length ≤ i))
  case atStart => exact ⟨0, none, 0, 0, [], by omega, Nat.zero_le _, rfl, rfl, Kept.refl _ _, World.ownsRow_nil _ _ _ _, by simp [Lib.fields], Nat.le_refl _⟩
  case round =>
    obtain ⟨i, a, l, k, D, hgk, hi, rfl, rfl, HR⟩ := hrel
    by_cases his : i < s.size
    · have hiI : (i : Int) < (s.size : Int) := by omega
      have hx := by8_eq his
      obtain ⟨hat, hsp⟩ := by8_at his
      obtain ⟨b, hbb⟩ : ∃ b, by8 s i = b := ⟨_, rfl⟩
      rw [hbb] at hx hsp
      have HAt : Hid (s.data.toList[i]? = some s[i] ∧ isSpI b = Lib.isSp s[i]) := ⟨hat, hsp⟩
      have HBb : Hid (by8 s i = b) := hbb
      clear hat hsp hbb
      obtain ⟨q, rfl⟩ : ∃ q, gk = q + 1 := ⟨gk - 1, by omega⟩
      by_cases h1 : isSpI b = true
      · go_wp2_with (go_at_call 29; refine (space29 b wr).mono ?_; rintro e w1 ⟨rfl, hw1⟩; subst w1; rw [h1])
        go_roundg q
        case measure => omega
        case rel =>
          refine ⟨i + 1, a, l, k, D, by omega, by omega, by go_num, rfl, HR.out.1, HR.out.2.1, ?_, by have := HR.out.2.2.2; omega⟩
          rw [← HR.out.2.2.1, Lib.drop_at HAt.out.1, Lib.fieldsGo_sp _ _ (by rw [← HAt.out.2]; exact h1)]
      · have h1' : isSpI b = false := by simpa using h1
        go_wp2_with (go_at_call 29; refine (space29 b wr).mono ?_; rintro e w1 ⟨rfl, hw1⟩; subst w1; rw [h1'])
        go_loopg [5] (s.size - i) (fun ik v5 wi => ∃ j : Nat, s.size - j = ik ∧ i ≤ j ∧ j ≤ s.size ∧ v5 = .int .i64 j ∧ wi = wr ∧ Hid (Lib.fieldsGo [] (s.data.toList.drop i) = Lib.fieldsGo ((s.data.toList.drop i).take (j - i)) (s.data.toList.drop j) ∧ (j = i → True)))
        case atStart => exact ⟨i, by omega, Nat.le_refl _, hi, rfl, rfl, by simp, fun _ => trivial⟩
        case round =>
          obtain ⟨j, hjk, hij, hjs, rfl, hwi, HJ⟩ := hrel
          rename World => wi
          subst wi
          by_cases hj : j < s.size
          · have hjI : (j : Int) < (s.size : Int) := by omega
            have hy := by8_eq hj
            obtain ⟨hat2, hsp2⟩ := by8_at hj
            obtain ⟨c, hcc⟩ : ∃ b, by8 s j = b := ⟨_, rfl⟩
            rw [hcc] at hy hsp2
            have HAt2 : Hid (s.data.toList[j]? = some s[j] ∧ isSpI c = Lib.isSp s[j]) := ⟨hat2, hsp2⟩
            have HCc : Hid (by8 s j = c) := hcc
            clear hat2 hsp2 hcc
            by_cases h2 : isSpI c = true
            · have hne : i ≠ j := by
                rintro rfl
                have := HBb.out.symm.trans HCc.out
                rw [this, h2] at h1'
                cases h1'
              have HC : Hid (Lib.fieldsGo [] (s.data.toList.drop i) = (s.data.toList.drop i).take (j - i) :: Lib.fieldsGo [] (s.data.toList.drop j)) := by
                show _ = _
                rw [HJ.out.1, Lib.drop_at HAt2.out.1, Lib.fieldsGo_end _ _ _ (by rw [← HAt2.out.2]; exact h2) (Lib.piece_ne (by omega) (by rw [HLn.out]; omega)), Lib.fieldsGo_sp _ _ (by rw [← HAt2.out.2]; exact h2)]
              have hlt : i < j := by omega
              clear hne
              go_upto_region 9 with (go_at_call 29; refine (space29 c wr).mono ?_; rintro e w1 ⟨rfl, hw1⟩; subst w1; rw [h2])
              go_wp2_with (at_builtin; refine wpList_append_one _ rfl (.tmp 30) (.tmp 35) 23 rfl w.heap.size 9 i0 (.string ByteArray.empty) 16 Tryd.underlying23 HI.out.1 HI.out.2.1 HI.out.2.2.1 HI.out.2.2.2 rfl (.slice a l k) _ (D.map Value.string) rfl (by exact ((Kept.refl Nowhere wr).alloc _).owns HR.out.2.1 (fun _ _ h => h)) _ (.string (s.extract i j)) rfl (by exact cell_new0 _ _ _ _ (by simp)) rfl (by have := HR.out.2.2.2; unfold maxLen; omega) (by have := HR.out.2.2.2; omega) (by have := HR.out.1.size; rw [Deep.nblk_alloc]; omega) ?_; intro g cap w3 ho hg hw; have HO := grownS HR.out.1 HR.out.2.1 ho hg; clear ho hg hw)
              go_roundg (s.size - j)
              case measure => omega
              case rel =>
                refine ⟨j, _, _, _, D ++ [s.extract i j], by omega, hjs, by go_num, rfl, HO.out.1, by simpa using HO.out.2, ?_, by have := HR.out.2.2.2; simp; omega⟩
                rw [← HR.out.2.2.1, HC.out]
                simp
            · have h2' : isSpI c = false := by simpa using h2
              obtain ⟨q2, rfl⟩ : ∃ q, gk = q + 1 := ⟨gk - 1, by omega⟩
              go_wp2_with (go_at_call 29; refine (space29 c wr).mono ?_; rintro e w1 ⟨rfl, hw1⟩; subst w1; rw [h2'])
              go_roundg q2
              case measure => omega
              case rel =>
                refine ⟨j + 1, by omega, by omega, by omega, by go_num, rfl, ?_, fun _ => trivial⟩
                rw [HJ.out.1, Lib.drop_at HAt2.out.1, Lib.fieldsGo_more _ _ _ (by rw [← HAt2.out.2]; exact h2'), Lib.piece_more hij HAt2.out.1]
          · obtain rfl : j = s.size := by omega
            have hjd : decide ((s.size : Int) < (s.size : Int)) = false := by simp
            have HC : Hid (Lib.fieldsGo [] (s.data.toList.drop i) = (s.data.toList.drop i).take (s.size - i) :: Lib.fieldsGo [] (s.data.toList.drop s.size)) := by
              show _ = _
              have hn := Lib.piece_ne (l := s.data.toList) (fs := i) (i := s.size) his (by rw [HLn.out]; exact Nat.le_refl _)
              have hnil : s.data.toList.drop s.size = [] := List.drop_eq_nil_of_le (by rw [HLn.out]; exact Nat.le_refl _)
              rw [HJ.out.1, hnil]
              cases hq : (s.data.toList.drop i).take (s.size - i) with
              | nil => exact absurd hq hn
              | cons x y => rfl
            go_upto_region 9 with (fail)
            go_wp2_with (at_builtin; refine wpList_append_one _ rfl (.tmp 30) (.tmp 35) 23 rfl w.heap.size 9 i0 (.string ByteArray.empty) 16 Tryd.underlying23 HI.out.1 HI.out.2.1 HI.out.2.2.1 HI.out.2.2.2 rfl (.slice a l k) _ (D.map Value.string) rfl (by exact ((Kept.refl Nowhere wr).alloc _).owns HR.out.2.1 (fun _ _ h => h)) _ (.string (s.extract i s.size)) rfl (by exact cell_new0 _ _ _ _ (by simp)) rfl (by have := HR.out.2.2.2; unfold maxLen; omega) (by have := HR.out.2.2.2; omega) (by have := HR.out.1.size; rw [Deep.nblk_alloc]; omega) ?_; intro g cap w3 ho hg hw; have HO := grownS HR.out.1 HR.out.2.1 ho hg; clear ho hg hw)
            go_roundg (s.size - s.size)
            case measure => omega
            case rel =>
              refine ⟨s.size, _, _, _, D ++ [s.extract i s.size], by omega, hjs, by go_num, rfl, HO.out.1, by simpa using HO.out.2, ?_, by have := HR.out.2.2.2; simp; omega⟩
              rw [← HR.out.2.2.1, HC.out]
              simp
    · obtain rfl : i = s.size := by omega
      go_wp2
      go_ret
      have hf := HR.out.2.2.1
      rw [List.drop_eq_nil_of_le (by rw [HLn.out]; exact Nat.le_refl _)] at hf
      simp only [Lib.fieldsGo, List.isEmpty_nil, if_true, List.append_nil] at hf
      obtain ⟨hl, hs⟩ := owns_strs HR.out.2.1
      have hlen : D.length = nWords s := by unfold nWords; rw [← hf, List.length_map]
      rw [hlen] at hl hs
      subst hl
      refine ⟨⟨a, k, rfl, fun hn => ?_⟩, HR.out.1⟩
      obtain ⟨b, o, ha, hc⟩ := hs hn
      refine ⟨b, o, ha, fun j hj => ?_⟩
      rw [hc j hj]
      have hjD : j < D.length := by omega
      unfold wordAt
      rw [← hf]
      simp [List.getD_eq_getElem?_getD, List.getElem?_eq_getElem hjD]
end Go.Proofs.Qxb6604040aDoor
