/-
  zzWitnessDomain.
-/
import Derived.Test.Qxb6604039aWitClone
namespace Go.Proofs.Qxb6604039a
open Go.RowKit

/-- the positions of the first t steps of row k -/
def rowPos (X : Nat → Nat → Stp) (k t : Nat) : List Int := (List.range t).map (fun i => (X k i).pos)
/-- the positions of the first j rows -/
def allPos (L : Nat → Nat) (X : Nat → Nat → Stp) : Nat → List Int
  | 0 => []
  | j + 1 => allPos L X j ++ rowPos X j (L j)

theorem rowPos_succ (X : Nat → Nat → Stp) (k t : Nat) : rowPos X k (t + 1) = rowPos X k t ++ [(X k t).pos] := by
  simp [rowPos, List.range_succ]

theorem rowPos_len (X : Nat → Nat → Stp) (k t : Nat) : (rowPos X k t).length = t := by simp [rowPos]

theorem allPos_len {L : Nat → Nat} {X : Nat → Nat → Stp} {n : Nat} (hL : ∀ i, i < n → L i ≤ 1048576) : ∀ j, j ≤ n → (allPos L X j).length ≤ j * 1048576
  | 0, _ => by simp [allPos]
  | j + 1, h => by
    have := allPos_len (X := X) hL j (by omega)
    have := hL j (by omega)
    simp only [allPos, List.length_append, rowPos_len]
    omega

theorem mem_rowPos {X : Nat → Nat → Stp} {k t i : Nat} (h : i < t) : (X k i).pos ∈ rowPos X k t := by
  simp only [rowPos, List.mem_map, List.mem_range]
  exact ⟨i, h, rfl⟩

theorem mem_allPos {L : Nat → Nat} {X : Nat → Nat → Stp} {k i : Nat} (hi : i < L k) : ∀ {n : Nat}, k < n → (X k i).pos ∈ allPos L X n
  | 0, h => by omega
  | n + 1, h => by
    simp only [allPos, List.mem_append]
    by_cases e : k = n
    · subst e; exact .inr (mem_rowPos hi)
    · exact .inl (mem_allPos hi (by omega))

/-- no two steps share a position -/
def PosInj (n : Nat) (L : Nat → Nat) (X : Nat → Nat → Stp) : Prop := ∀ k i k' i', k < n → k' < n → i < L k → i' < L k' → (X k i).pos = (X k' i').pos → k = k' ∧ i = i'

theorem rowPos_inj {X : Nat → Nat → Stp} {k t : Nat} (h : (rowPos X k t).Nodup) {i i' : Nat} (hi : i < t) (hi' : i' < t) (e : (X k i).pos = (X k i').pos) : i = i' := by
  have hl := rowPos_len X k t
  have h1 : (rowPos X k t)[i]'(by omega) = (X k i).pos := by simp [rowPos]
  have h2 : (rowPos X k t)[i']'(by omega) = (X k i').pos := by simp [rowPos]
  exact (List.getElem_inj h).1 (h1.trans (e.trans h2.symm))

theorem posInj_of {L : Nat → Nat} {X : Nat → Nat → Stp} : ∀ {n : Nat}, (allPos L X n).Nodup → PosInj n L X
  | 0, _ => fun k _ _ _ h => by omega
  | n + 1, h => by
    simp only [allPos] at h
    obtain ⟨h1, h2, h3⟩ := List.nodup_append.1 h
    intro k i k' i' hk hk' hi hi' e
    by_cases ek : k = n
    · by_cases ek' : k' = n
      · subst ek; subst ek'
        exact ⟨rfl, rowPos_inj h2 hi hi' e⟩
      · subst ek
        exact absurd e.symm (h3 _ (mem_allPos hi' (show k' < k by omega)) _ (mem_rowPos hi))
    · by_cases ek' : k' = n
      · subst ek'
        exact absurd e (h3 _ (mem_allPos hi (show k < k' by omega)) _ (mem_rowPos hi'))
      · exact posInj_of h1 k i k' i' (by omega) (by omega) hi hi' e

/-- what zzWitnessDomain asks -/
structure WDom (n nU nu : Nat) (L : Nat → Nat) (X : Nat → Nat → Stp) (U : Nat → Us) (O : Nat → Int) (x : Int) : Prop where
  x0 : 0 ≤ x
  x1 : x + 1 < nu
  lo0 : 0 ≤ O x.toNat
  lohi : O x.toNat ≤ O (x.toNat + 1)
  hi1 : O (x.toNat + 1) ≤ nU
  item : ∀ ui : Nat, O x.toNat ≤ ui → (ui : Int) < O (x.toNat + 1) → 0 ≤ (U ui).item ∧ (U ui).item < n
  span : ∀ ui : Nat, O x.toNat ≤ ui → (ui : Int) < O (x.toNat + 1) → (U ui).first ≤ (U ui).hi → 0 ≤ (U ui).first ∧ (U ui).hi < L (U ui).item.toNat
  pos0 : ∀ k i, k < n → i < L k → 0 ≤ (X k i).pos
  inj : PosInj n L X

theorem nodup_of_pairs {F : List Int} (h : ∀ i, i < F.length → ∀ j, i < j → j < F.length → F.getD i 0 ≠ F.getD j 0) : F.Nodup := by
  rw [List.nodup_iff_pairwise_ne, List.pairwise_iff_getElem]
  intro i j hi hj hij e
  refine h i hi j hij hj ?_
  simp [List.getD_eq_getElem?_getD, List.getElem?_eq_getElem hi, List.getElem?_eq_getElem hj, e]

def zv (z : Int) : Value := .int .i64 z

/-- the uses from lo to hi are well -/
def UOK (n : Nat) (L : Nat → Nat) (U : Nat → Us) (lo hi : Nat) : Prop := ∀ ui, lo ≤ ui → ui < hi → (0 ≤ (U ui).item ∧ (U ui).item < n) ∧ ((U ui).first ≤ (U ui).hi → 0 ≤ (U ui).first ∧ (U ui).hi < L (U ui).item.toNat)

theorem UOK.snoc {n : Nat} {L : Nat → Nat} {U : Nat → Us} {lo ui : Nat} (h : UOK n L U lo ui) (h2 : (0 ≤ (U ui).item ∧ (U ui).item < n) ∧ ((U ui).first ≤ (U ui).hi → 0 ≤ (U ui).first ∧ (U ui).hi < L (U ui).item.toNat)) : UOK n L U lo (ui + 1) := by
  intro u h0 h1
  by_cases e : u = ui
  · subst e; exact h2
  · exact h u h0 (by omega)

def PosOK (L : Nat → Nat) (X : Nat → Nat → Stp) (n : Nat) : Prop := ∀ k i, k < n → i < L k → 0 ≤ (X k i).pos

theorem owns_cell {w : World} {base : Nat} {g cap : Nat} {F : List Int} {m : Nat} (h : w.ownsRow base 3 1 (.slice (some ⟨g, 0, none⟩) m cap) m (F.map zv)) {i : Nat} (hi : i < F.length) : w.cell? ⟨g, i, none⟩ = some (.int .i64 (F.getD i 0)) := by
  have hl := h.1
  simp at hl
  rw [h.cellAt i (by omega)]
  simp [zv, List.getD_eq_getElem?_getD, List.getElem?_eq_getElem hi]

theorem owns_base {base e size k : Nat} {w : World} {v : Value} {n : Nat} {xs : List Value} (h : w.ownsRow base e size v n xs) (hk : v.ownBlock = some k) : base ≤ k := by
  rcases h.2 with ⟨rfl, _⟩ | ⟨g, cap, cur, rfl, hb, _⟩
  · cases hk
  · simp [Value.ownBlock] at hk; omega

theorem grownF {w wi w3 : World} {ob : Obj} {v v3 : Value} {n m : Nat} {xs ys : List Value} (k : Kept Nowhere w wi) (ho : wi.ownsRow w.heap.size 3 1 v n xs) (h3 : w3.ownsRow w.heap.size 3 1 v3 m ys) (hg : (wi.alloc ob).grownBy w3 v.ownBlock) : Hid (Kept Nowhere w w3 ∧ w3.ownsRow w.heap.size 3 1 v3 m ys) :=
  ⟨(k.alloc _).grown hg (fun _ hk => .inr (owns_base ho hk)), h3⟩

theorem owns_zints {w : World} {base : Nat} {a : Option Addr} {l k : Nat} {F : List Int} (h : w.ownsRow base 3 1 (.slice a l k) F.length (F.map zv)) : l = F.length ∧ IntsAt w a F.length (fun i => F.getD i 0) := by
  rcases h.2 with ⟨h1, h0⟩ | ⟨g, cap, cur, hv, hb, hg, hle, hmx, hsz, htk⟩
  · simp at h1
    obtain ⟨rfl, rfl, rfl⟩ := h1
    exact ⟨h0.symm, fun hn => absurd h0 hn⟩
  · simp at hv
    obtain ⟨rfl, rfl, rfl⟩ := hv
    exact ⟨rfl, fun _ => ⟨g, 0, rfl, fun j hj => by rw [Nat.zero_add]; exact owns_cell h hj⟩⟩

set_option maxRecDepth 100000 in
set_option maxHeartbeats 4000000 in
theorem dom12_core (a aU au : Option Addr) (n k nU kU nu ku x lo hi : Nat) (A : Nat → Option Addr) (L C : Nat → Nat) (X : Nat → Nat → Stp) (U : Nat → Us) (O : Nat → Int) (w : World)
    (h : LogsAt w a n A L C X) (hU : UsesAt w aU nU U) (hO : IntsAt w au nu O) (hb : n ≤ 4096) (hL : ∀ i, i < n → L i ≤ 1048576) (hnU : nU ≤ 1048576) (hnu : nu ≤ 1048576)
    (hx : x + 1 < nu) (hlo : O x = lo) (hhi : O (x + 1) = hi) (hlh : lo ≤ hi) (hhU : hi ≤ nU) :
    Calls Try.prog 12 #[.slice a n k, .slice aU nU kU, .slice au nu ku, .int .i64 (x : Nat)] w fun e w' => Answers (fun r => r = true → UOK n L U lo hi ∧ PosOK L X n ∧ PosInj n L X) e ∧ Kept Nowhere w w' := by
  obtain ⟨bu, ou, rfl, hcu⟩ := hO (by omega)
  have cx : w.cell? ⟨bu, ou + x, none⟩ = some (.int .i64 lo) := by rw [← hlo]; exact hcu x (by omega)
  have cx1 : w.cell? ⟨bu, ou + (x + 1), none⟩ = some (.int .i64 hi) := by rw [← hhi]; exact hcu (x + 1) (by omega)
  have hxI : (x : Int) < (nu : Int) - 1 := by omega
  have hx0 : decide ((x : Int) < 0) = false := by simp
  have hl0 : decide ((lo : Int) < 0) = false := by simp
  have hd1 : decide (hi < lo) = false := by simp; omega
  have hd2 : decide (nU < hi) = false := by simp; omega
  have hx1 : decide ((nu : Int) - 1 ≤ x) = false := by simp; omega
  have hlhI : (lo : Int) ≤ hi := by omega
  have hhUI : (hi : Int) ≤ nU := by omega
  have HX : Hid (LogsAt w a n A L C X ∧ UsesAt w aU nU U ∧ ∀ i, i < n → L i ≤ 1048576) := ⟨h, hU, hL⟩
  obtain ⟨i0, hii, hz0, hz1, hz2⟩ := info_parts Try.info3
  have HI : Hid (Try.prog.info? 3 = some i0 ∧ i0.zero = some (.int .i64 0) ∧ i0.size = 1 ∧ i0.bytes = 8) := ⟨hii, hz0, hz1, hz2⟩
  clear h hU hL hcu hO hlo hhi hii hz0 hz1 hz2
  go_enter Try.func12, Try.ntmps12
  go_wp2
  go_loopg [11] (hi - lo) (fun gk i wr => ∃ ui : Nat, ui + gk = hi ∧ lo ≤ ui ∧ i = .int .i64 ui ∧ Hid (Kept Nowhere w wr ∧ UOK n L U lo ui))
  case atStart => exact ⟨lo, by omega, Nat.le_refl _, rfl, Kept.refl _ _, fun u h0 h1 => by omega⟩
  case round =>
    obtain ⟨ui, huk, hul, rfl, HR⟩ := hrel
    by_cases hu : ui < hi
    · obtain ⟨bU, oU, rfl, hcU⟩ := (HX.out.2.1.kept HR.out.1) (by omega)
      obtain ⟨c0, c1, c2⟩ := hcU ui (by omega)
      have huI : (ui : Int) < (hi : Int) := by omega
      have huU : (ui : Int) < (nU : Int) := by omega
      obtain ⟨q, rfl⟩ : ∃ q, gk = q + 1 := ⟨gk - 1, by omega⟩
      clear hcU
      obtain ⟨us, hus⟩ : ∃ s, U ui = s := ⟨_, rfl⟩
      rw [hus] at c0 c1 c2
      have HS : Hid (U ui = us) := hus
      obtain ⟨it, fi, hh⟩ := us
      dsimp only at c0 c1 c2
      clear hus
      by_cases hit : 0 ≤ it ∧ it < n
      · obtain ⟨hit0, hitn⟩ := hit
        obtain ⟨itN, rfl⟩ := Int.eq_ofNat_of_zero_le hit0
        by_cases hsp : fi ≤ hh
        · by_cases hf0 : 0 ≤ fi
          · obtain ⟨b, o, rfl, hc⟩ := (HX.out.1.kept HR.out.1).1 (by omega)
            have hcj := hc itN (by omega)
            obtain ⟨l, hl⟩ : ∃ l, L itN = l := ⟨_, rfl⟩
            rw [hl] at hcj
            have HL : Hid (L itN = l) := hl
            have hca : ∀ ob, (wr.alloc ob).cell? ⟨b, o + itN, none⟩ = some (.slice (A itN) l (C itN)) := fun ob => ((Kept.refl Nowhere wr).alloc ob).nothing_cell (fun _ h => h) hcj
            clear hc hl
            by_cases hhl : hh < l
            · go_wp2
              go_quiet (fail)
              go_wp2
              go_roundg q
              case measure => omega
              case rel =>
                refine ⟨ui + 1, by omega, by omega, by go_num, (HR.out.1.alloc _).drewN _, HR.out.2.snoc ?_⟩
                rw [HS.out]
                refine ⟨⟨hit0, hitn⟩, fun _ => ⟨hf0, ?_⟩⟩
                show hh < ((L itN : Nat) : Int)
                rw [HL.out]; exact hhl
            · have hhl' : (l : Int) ≤ hh := by omega
              clear hhl
              go_wp2
              go_quiet (fail)
              go_wp2
              go_ret
              exact ⟨answers rfl (fun h => by cases h), (HR.out.1.alloc _).drewN _⟩
          · have hf0' : fi < 0 := by omega
            clear hf0
            go_wp2
            go_quiet (fail)
            go_wp2
            go_ret
            exact ⟨answers rfl (fun h => by cases h), (HR.out.1.alloc _).drewN _⟩
        · have hsp' : decide (fi ≤ hh) = false := by simp; omega
          have hsp2 : Hid (hh < fi) := by show hh < fi; omega
          clear hsp
          go_wp2
          go_quiet (fail)
          go_wp2
          go_roundg q
          case measure => omega
          case rel =>
            refine ⟨ui + 1, by omega, by omega, by go_num, (HR.out.1.alloc _).drewN _, HR.out.2.snoc ?_⟩
            rw [HS.out]
            refine ⟨⟨hit0, hitn⟩, fun (h : fi ≤ hh) => by have := hsp2.out; omega⟩
      · have hit' : it < 0 ∨ (n : Int) ≤ it := by omega
        clear hit
        rcases hit' with hit' | hit'
        all_goals
          go_wp2
          go_ret
          exact ⟨answers rfl (fun h => by cases h), HR.out.1.alloc _⟩
    · have HD : Hid (UOK n L U lo hi) := by
        obtain rfl : ui = hi := by omega
        exact HR.out.2
      have hnl : ¬ ((ui : Int) < (hi : Int)) := by omega
      have HK : Hid (Kept Nowhere w wr) := HR.out.1
      clear hu HR
      go_wp2
      go_loopg [13, 14] n (fun gk v i wt => ∃ j : Nat, j + gk = n ∧ i = .int .i64 j ∧ (∃ a13 l13 k13, v = .slice a13 l13 k13) ∧ Hid (Kept Nowhere w wt ∧ wt.ownsRow w.heap.size 3 1 v (allPos L X j).length ((allPos L X j).map zv) ∧ PosOK L X j))
      case atStart => exact ⟨0, by omega, rfl, ⟨_, _, _, rfl⟩, HK.out, World.ownsRow_nil _ _ _ _, fun k i h => by omega⟩
      case round =>
        obtain ⟨j, hjk, rfl, ⟨a13, l13, k13, rfl⟩, HR⟩ := hrel
        rename World => wt
        by_cases hj : j < n
        · obtain ⟨b, o, rfl, hc⟩ := HX.out.1.1 (by omega)
          have hcj := hc j hj
          have hjI : (j : Int) < (n : Int) := by omega
          have hLj := HX.out.2.2 j hj
          obtain ⟨aj, ha⟩ : ∃ a, A j = a := ⟨_, rfl⟩
          obtain ⟨l, hl⟩ : ∃ l, L j = l := ⟨_, rfl⟩
          obtain ⟨kj, hk⟩ : ∃ k, C j = k := ⟨_, rfl⟩
          have hrow := HX.out.1.2 j hj
          rw [ha, hl] at hrow
          rw [ha, hl, hk] at hcj
          rw [hl] at hLj
          have HL : Hid (L j = l) := hl
          have HRow : Hid (StepsAt w aj l (X j)) := hrow
          have HC : Hid (w.cell? ⟨b, o + j, none⟩ = some (.slice aj l kj)) := hcj
          obtain ⟨q, rfl⟩ : ∃ q, gk = q + 1 := ⟨gk - 1, by omega⟩
          clear ha hl hk hrow hc hcj
          have HF : Hid ((allPos L X j).length ≤ j * 1048576) := allPos_len HX.out.2.2 j (by omega)
          go_wp2
          go_loopg [13, 15] l (fun ik v i wi => ∃ t : Nat, t + ik = l ∧ i = .int .i64 t ∧ (∃ a13 l13 k13, v = .slice a13 l13 k13) ∧ Hid (Kept Nowhere w wi ∧ wi.ownsRow w.heap.size 3 1 v (allPos L X j ++ rowPos X j t).length ((allPos L X j ++ rowPos X j t).map zv) ∧ ∀ u, u < t → 0 ≤ (X j u).pos))
          case atStart => exact ⟨0, by omega, rfl, ⟨_, _, _, rfl⟩, HR.out.1, by simpa [rowPos] using HR.out.2.1, fun u h => by omega⟩
          case round =>
            obtain ⟨t, htk, rfl, ⟨a14, l14, k14, rfl⟩, HT⟩ := hrel
            rename World => wi
            have hci : wi.cell? ⟨b, o + j, none⟩ = some (.slice aj l kj) := HT.out.1.nothing_cell (fun _ h => h) HC.out
            by_cases ht : t < l
            · obtain ⟨b2, o2, rfl, hc2⟩ := (HRow.out.kept HT.out.1) (by omega)
              have c0 := (hc2 t ht).1
              have htI : (t : Int) < (l : Int) := by omega
              obtain ⟨p, hp⟩ : ∃ p, (X j t).pos = p := ⟨_, rfl⟩
              rw [hp] at c0
              have HP : Hid ((X j t).pos = p) := hp
              clear hp hc2
              obtain ⟨q2, rfl⟩ : ∃ q, gk = q + 1 := ⟨gk - 1, by omega⟩
              by_cases hp0 : 0 ≤ p
              · have hFl : (allPos L X j ++ rowPos X j t).length ≤ 4294967296 := by
                  have := HF.out
                  rw [List.length_append, rowPos_len]
                  have : j * 1048576 ≤ 4095 * 1048576 := by omega
                  omega
                have HFl : Hid ((allPos L X j ++ rowPos X j t).length ≤ 4294967296) := hFl
                clear hFl
                go_wp2_with (at_builtin; refine wpList_append_one _ rfl (.tmp 114) (.tmp 123) 24 rfl w.heap.size 3 i0 (.int .i64 0) 8 Try.underlying24 HI.out.1 HI.out.2.1 HI.out.2.2.1 HI.out.2.2.2 rfl (.slice a14 l14 k14) _ ((allPos L X j ++ rowPos X j t).map zv) rfl (by exact ((Kept.refl Nowhere wi).alloc _).owns HT.out.2.1 (fun _ _ h => h)) _ (zv p) rfl (by exact cell_new0 _ _ _ _ (by simp)) rfl (by have := HFl.out; unfold maxLen; omega) (by have := HFl.out; omega) (by have := HT.out.1.size; rw [Deep.nblk_alloc]; omega) ?_; intro g cap w3 ho hg hw; have HO := grownF HT.out.1 HT.out.2.1 ho hg; clear ho hg hw)
                go_roundg q2
                case measure => omega
                case rel =>
                  refine ⟨t + 1, by omega, by go_num, ⟨_, _, _, rfl⟩, HO.out.1, ?_, fun u hu => ?_⟩
                  · have := HO.out.2
                    rw [rowPos_succ, HP.out]
                    simpa [Nat.add_assoc] using this
                  · by_cases e : u = t
                    · subst e; rw [HP.out]; exact hp0
                    · exact HT.out.2.2 u (by omega)
              · have hp0' : p < 0 := by omega
                clear hp0
                go_wp2
                go_ret
                exact ⟨answers rfl (fun h => by cases h), HT.out.1⟩
            · go_wp2
              go_roundg q
              case measure => omega
              case rel =>
                obtain rfl : t = l := by omega
                refine ⟨j + 1, by omega, by go_num, ⟨_, _, _, rfl⟩, HT.out.1, ?_, fun k i hk hi => ?_⟩
                · have := HT.out.2.1
                  simp only [allPos, HL.out]
                  exact this
                · by_cases e : k = j
                  · subst e; rw [HL.out] at hi; exact HT.out.2.2 i hi
                  · exact HR.out.2.2 k i (by omega) hi
        · obtain rfl : j = n := by omega
          obtain ⟨rfl, hI⟩ := owns_zints HR.out.2.1
          have HF : Hid (IntsAt wt a13 (allPos L X j).length (fun i => (allPos L X j).getD i 0) ∧ Kept Nowhere w wt ∧ PosOK L X j) := ⟨hI, HR.out.1, HR.out.2.2⟩
          have HB : Hid ((allPos L X j).length ≤ j * 1048576) := allPos_len HX.out.2.2 j (by omega)
          obtain ⟨F, hF⟩ : ∃ F, allPos L X j = F := ⟨_, rfl⟩
          have HE : Hid (allPos L X j = F) := hF
          rw [hF] at HF HB
          obtain ⟨m, hm⟩ : ∃ m, F.length = m := ⟨_, rfl⟩
          have HM : Hid (F.length = m) := hm
          have hmb : m ≤ 4294967296 := by have := HB.out; omega
          simp only [hF, hm]
          rw [hm] at HF
          clear HR hI hF hm HB
          go_wp2
          go_loopg [16] m (fun gk i wq => ∃ t q : Nat, t + gk = m ∧ i = .int .i64 t ∧ wq = wt.drewN q ∧ Hid (∀ i', i' < t → ∀ j', i' < j' → j' < m → F.getD i' 0 ≠ F.getD j' 0))
          case atStart => exact ⟨0, 0, by omega, rfl, rfl, fun i' h => by omega⟩
          case round =>
            obtain ⟨t, q, htk, rfl, rfl, HT⟩ := hrel
            by_cases ht : t < m
            · obtain ⟨g, o, rfl, hc⟩ := HF.out.1 (by omega)
              have ct := hc t ht
              have HC : Hid (∀ j, j < m → wt.cell? ⟨g, o + j, none⟩ = some (.int .i64 (F.getD j 0))) := hc
              have htI : (t : Int) < (m : Int) := by omega
              obtain ⟨ft, hft⟩ : ∃ z, F.getD t 0 = z := ⟨_, rfl⟩
              have HFt : Hid (F.getD t 0 = ft) := hft
              simp only [hft] at ct
              clear hc hft
              obtain ⟨q2, rfl⟩ : ∃ q, gk = q + 1 := ⟨gk - 1, by omega⟩
              go_wp2
              go_loopg [17] (m - (t + 1)) (fun ik i wq => ∃ u q : Nat, u + ik = m ∧ t < u ∧ i = .int .i64 u ∧ wq = wt.drewN q ∧ Hid (∀ j', t < j' → j' < u → ft ≠ F.getD j' 0))
              case atStart => exact ⟨t + 1, q, by omega, by omega, by go_num, rfl, fun j' h1 h2 => by omega⟩
              case round =>
                obtain ⟨u, q3, huk, htu, rfl, rfl, HU⟩ := hrel
                by_cases hu : u < m
                · have cu := HC.out u hu
                  have huI : (u : Int) < (m : Int) := by omega
                  obtain ⟨fu, hfu⟩ : ∃ z, F.getD u 0 = z := ⟨_, rfl⟩
                  have HFu : Hid (F.getD u 0 = fu) := hfu
                  rw [hfu] at cu
                  clear hfu
                  obtain ⟨q4, rfl⟩ : ∃ q, gk = q + 1 := ⟨gk - 1, by omega⟩
                  by_cases he : ft = fu
                  · subst he
                    go_wp2
                    go_quiet (fail)
                    go_wp2
                    go_ret
                    exact ⟨answers rfl (fun h => by cases h), (HF.out.2.1.drewN _).drewN _⟩
                  · have he' : (ft == fu) = false := by simp [he]
                    go_wp2
                    go_quiet (fail)
                    go_wp2
                    go_roundg q4
                    case measure => omega
                    case rel =>
                      refine ⟨u + 1, _, by omega, by omega, by go_num, rfl, fun j' h1 h2 => ?_⟩
                      by_cases e : j' = u
                      · subst e; rw [HFu.out]; exact he
                      · exact HU.out j' h1 (by omega)
                · go_wp2
                  go_roundg q2
                  case measure => omega
                  case rel =>
                    refine ⟨t + 1, _, by omega, by go_num, rfl, fun i' hi' j' h1 h2 => ?_⟩
                    by_cases e : i' = t
                    · subst e; rw [HFt.out]; exact HU.out j' h1 (by omega)
                    · exact HT.out i' (by omega) j' h1 h2
            · go_wp2
              go_ret
              refine ⟨answers rfl (fun _ => ⟨HD.out, HF.out.2.2, posInj_of ?_⟩), HF.out.2.1.drewN _⟩
              rw [HE.out]
              refine nodup_of_pairs fun i hi j hij hj => HT.out i ?_ j hij ?_
              · have := HM.out; omega
              · have := HM.out; omega
end Go.Proofs.Qxb6604039a
