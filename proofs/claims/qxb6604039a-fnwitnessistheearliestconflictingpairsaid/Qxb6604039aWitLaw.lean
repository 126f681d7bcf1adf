/-
  The law 'FnWitnessIsTheEarliestConflictingPair': the walk.
-/
import Derived.Test.Qxb6604039aWitOf
import Derived.Test.Qxb6604039aWitPlain3
import Derived.WalkSmall
namespace Go.Proofs.Qxb6604039a
open Go.RowKit

/-- the box of a step -/
def BoxAt (w : World) (b : Nat) (s : Stp) : Prop := w.cell? ⟨b, 0, none⟩ = some (.int .i64 s.pos) ∧ w.cell? ⟨b, 1, none⟩ = some (.int .i64 s.node) ∧ w.cell? ⟨b, 2, none⟩ = some (.int .i64 s.val) ∧ w.cell? ⟨b, 3, none⟩ = some (.bool s.hv) ∧ w.cell? ⟨b, 4, none⟩ = some (.int .u8 s.act) ∧ w.cell? ⟨b, 5, none⟩ = some (.bool s.pr)
theorem BoxAt.kept {w w' : World} {b : Nat} {s : Stp} (h : BoxAt w b s) (k : Kept Nowhere w w') : BoxAt w' b s :=
  ⟨k.nothing_cell (fun _ h => h) h.1, k.nothing_cell (fun _ h => h) h.2.1, k.nothing_cell (fun _ h => h) h.2.2.1, k.nothing_cell (fun _ h => h) h.2.2.2.1, k.nothing_cell (fun _ h => h) h.2.2.2.2.1, k.nothing_cell (fun _ h => h) h.2.2.2.2.2⟩

/-- one step in a row -/
def StepAt (w : World) (b o : Nat) (s : Stp) : Prop := w.cell? ⟨b, o, none⟩ = some (.int .i64 s.pos) ∧ w.cell? ⟨b, o + 1, none⟩ = some (.int .i64 s.node) ∧ w.cell? ⟨b, o + 2, none⟩ = some (.int .i64 s.val) ∧ w.cell? ⟨b, o + 3, none⟩ = some (.bool s.hv) ∧ w.cell? ⟨b, o + 4, none⟩ = some (.int .u8 s.act) ∧ w.cell? ⟨b, o + 5, none⟩ = some (.bool s.pr)
theorem StepAt.kept {w w' : World} {b o : Nat} {s : Stp} (h : StepAt w b o s) (k : Kept Nowhere w w') : StepAt w' b o s :=
  ⟨k.nothing_cell (fun _ h => h) h.1, k.nothing_cell (fun _ h => h) h.2.1, k.nothing_cell (fun _ h => h) h.2.2.1, k.nothing_cell (fun _ h => h) h.2.2.2.1, k.nothing_cell (fun _ h => h) h.2.2.2.2.1, k.nothing_cell (fun _ h => h) h.2.2.2.2.2⟩

theorem brute_same {H : Hist} {n : Nat} {L : Nat → Nat} {o o' : Option (Nat × Nat × Nat)} (h : BestOf H (SeenU H.lo H.hi) o) (h' : BestOf H (SeenU H.lo H.hi) o') (inj : PosInj n L H.X) (ok : UOK n L H.U H.lo H.hi) :
    itemOf H o' = fK H o ∧ bS H o' = bS H o ∧ bT H o' = bT H o := by
  rcases BestOf.same h h' inj (fun u h0 h1 => by have := (ok u h0 h1).1; omega) (fun u h0 h1 hf => ((ok u h0 h1).2 hf).2) with ⟨rfl, rfl⟩ | ⟨c, c', rfl, rfl, h1, h2⟩
  · exact ⟨rfl, rfl, rfl⟩
  · have r := (h.2 c rfl).1
    have r' := (h'.2 c' rfl).1
    have a := (ok c.1 r.1 r.2).1.1
    have a' := (ok c'.1 r'.1 r'.2).1.1
    refine ⟨?_, ?_, ?_⟩
    · show (H.U c'.1).item = (H.U c.1).item; omega
    · show H.row c'.1 c'.2.1 = H.row c.1 c.2.1
      unfold Hist.row
      rw [h1, h2]
    · show H.row c'.1 c'.2.2 = H.row c.1 c.2.2
      unfold Hist.row
      rw [h1, h2]

/-- the worlds that keep all of W0 -/
structure KW (W0 : World) where
  val : World
  kept : Kept Nowhere W0 val
theorem KW.some (W0 : World) : Nonempty (KW W0) := ⟨⟨W0, Kept.refl _ _⟩⟩
/-- a region that draws its order, whose operations only read and whose callees keep all: one walk, in the order of the text -/
theorem wp_region_kept_lit {P : Program} {id : Nat} {Q : Exit → Act → World → Prop} {a : Act} {w : World} {l : List Oper} (hm : P.follows .mixedOrders = true) (hB : Region.lexB .any l.toArray = true)
    (h : wpQuiet P l.toArray (fun w' => ∃ q : KW w, w' = q.val) (fun a' => ∀ w', (∃ q : KW w, w' = q.val) → Q .normal a' w') l a) : (Code.region id l.toArray true).wp P Q a w :=
  wp_region_quiet (C := fun w' => ∃ q : KW w, w' = q.val) hm hB ⟨⟨_, (Kept.refl Nowhere w).drew⟩, rfl⟩ (by simpa using h)
theorem Calls.kept_of {P : Program} {f : FuncId} {args : Array Value} {W0 : World} {q : KW W0} {v : Value} (h : Calls P f args q.val fun e w' => e = .returned v ∧ Kept Nowhere q.val w') : Calls P f args q.val fun e w'' => e = .returned v ∧ ∃ q' : KW W0, w'' = q'.val :=
  h.mono fun _ w' ⟨he, hk⟩ => ⟨he, ⟨w', q.kept.trans hk⟩, rfl⟩

set_option maxRecDepth 100000 in
set_option maxHeartbeats 8000000 in
theorem witlaw_small (a aU au : Option Addr) (n k nU kU nu ku : Nat) (x y : Int) (A : Nat → Option Addr) (L C : Nat → Nat) (X : Nat → Nat → Stp) (U : Nat → Us) (O : Nat → Int) (w : World)
    (h : LogsAt w a n A L C X) (hU : UsesAt w aU nU U) (hO : IntsAt w au nu O) (ha : a = none → n = 0) (haU : aU = none → nU = 0)
    (hn : (n : Int) ≤ 4096) (hnU : (nU : Int) ≤ 32768) (hnu : (nu : Int) ≤ 65536) (hb : 8 * (nu : Int) + 24 * (nU : Int) ≤ 1048576) :
    Calls Try.prog 4 #[.slice a n k, .slice aU nU kU, .slice au nu ku, .int .i64 x, .int .i64 y] w fun e w' => e = .returned (.bool true) ∧ Kept Nowhere w w' := by
  have HB : Hid (Calls Try.prog 11 #[.slice a n k, .slice aU nU kU, .slice au nu ku, .int .i64 x, .int .i64 y] w fun e w' => Answers (fun _ => True) e ∧ w' = w) := bytes11 a aU au n k nU kU nu ku x y A L C X w h
  have HX : Hid (LogsAt w a n A L C X) := h
  have HU : Hid (UsesAt w aU nU U) := hU
  have HO : Hid (IntsAt w au nu O) := hO
  have HN : Hid ((a = none → n = 0) ∧ (aU = none → nU = 0)) := ⟨ha, haU⟩
  clear h hU hO ha haU
  go_enter Try.func4, Try.ntmps4
  go_wp2_with (go_at_call 11; refine HB.out.mono ?_; rintro e w1 ⟨⟨r, rfl, -⟩, hw1⟩; subst w1; cases r)
  · go_ret
    exact ⟨rfl, Kept.refl _ _⟩
  go_loopg [11, 12, 13] n (fun gk v11 v12 v13 wr => ∃ (j : Nat) (z s : Int), j + gk = n ∧ v13 = .int .i64 j ∧ v11 = .int .i64 z ∧ v12 = .int .i64 s ∧ 0 ≤ z ∧ z ≤ 1048576 ∧ 0 ≤ s ∧ s ≤ 4096 ∧ wr = w ∧ Hid (∀ i, i < j → L i ≤ 4096))
  case atStart => exact ⟨0, _, 0, by omega, rfl, rfl, rfl, by omega, by omega, by omega, by omega, rfl, fun i hi => by omega⟩
  case round =>
    obtain ⟨j, z, s, hjk, rfl, rfl, rfl, hz0, hz1, hs0, hs1, rfl, HL⟩ := hrel
    by_cases hj : j < n
    · obtain ⟨b, o, rfl, hc⟩ := HX.out.1 (by omega)
      have hc' := hc j hj
      have hjI : (j : Int) < (n : Int) := by omega
      obtain ⟨aj, haj⟩ : ∃ a, A j = a := ⟨_, rfl⟩
      obtain ⟨l, hl⟩ : ∃ l, L j = l := ⟨_, rfl⟩
      obtain ⟨kj, hkj⟩ : ∃ k, C j = k := ⟨_, rfl⟩
      rw [haj, hl, hkj] at hc'
      have HLl : Hid (L j = l) := hl
      clear haj hl hkj hc
      obtain ⟨q, rfl⟩ : ∃ q, gk = q + 1 := ⟨gk - 1, by omega⟩
      by_cases hl : (l : Int) ≤ 4096
      · by_cases hs2 : s + (l : Int) ≤ 4096
        · by_cases hz : z + (24 + 32 * (l : Int)) ≤ 1048576
          · go_wp2
            go_roundg q
            case measure => omega
            case rel =>
              refine ⟨j + 1, z + (24 + 32 * (l : Int)), s + (l : Int), by omega, by go_num, rfl, rfl, by omega, by omega, by omega, by omega, rfl, fun i hi => ?_⟩
              by_cases ei : i = j
              · subst ei; rw [HLl.out]; omega
              · exact HL.out i (by omega)
          · go_wp2
            go_ret
            exact ⟨rfl, Kept.refl _ _⟩
        · go_wp2
          go_ret
          exact ⟨rfl, Kept.refl _ _⟩
      · go_wp2
        go_ret
        exact ⟨rfl, Kept.refl _ _⟩
    · have HLp : Hid (∀ i, i < n → L i ≤ 4096) := fun i hi => HL.out i (by omega)
      have HD : Hid (Calls Try.prog 12 _ wr _) := dom12 a aU au n k nU kU nu ku x A L C X U O wr HX.out HU.out HO.out (by omega) (fun i hi => by have := HLp.out i hi; omega) (by omega) (by omega)
      clear HL
      go_upto_region 20 with (go_at_call 12; refine HD.out.mono ?_; rintro e w1 ⟨⟨r, rfl, hdom⟩, hk1⟩; cases r)
      · go_ret
        exact ⟨rfl, hk1⟩
      have D := hdom (by first | rfl | trivial)
      obtain ⟨x, rfl⟩ := Int.eq_ofNat_of_zero_le D.x0
      have hx1 : (x : Int) + 1 < (nu : Int) := D.x1
      obtain ⟨bu, ou, rfl, hcu⟩ := HO.out (by omega)
      have hlo0 := D.lo0
      have hlohi := D.lohi
      have hhi1 := D.hi1
      simp only [Int.toNat_natCast] at hlo0 hlohi hhi1
      obtain ⟨lo, hlo⟩ := Int.eq_ofNat_of_zero_le hlo0
      obtain ⟨hi, hhi⟩ := Int.eq_ofNat_of_zero_le (Int.le_trans hlo0 hlohi)
      have HD2 : Hid (WDom n nU nu L X U O (x : Int)) := D
      have HK1 : Hid (Kept Nowhere wr w1) := hk1
      have HLH : Hid (O x = (lo : Int) ∧ O (x + 1) = (hi : Int)) := ⟨hlo, hhi⟩
      have HCU : Hid (wr.cell? ⟨bu, ou + x, none⟩ = some (.int .i64 lo) ∧ wr.cell? ⟨bu, ou + (x + 1), none⟩ = some (.int .i64 hi)) := ⟨by rw [← hlo]; exact hcu x (by omega), by rw [← hhi]; exact hcu (x + 1) (by omega)⟩
      have hlh : lo ≤ hi := by omega
      have hhU : hi ≤ nU := by omega
      have cx := hk1.nothing_cell (fun _ h => h) HCU.out.1
      have cx1 := hk1.nothing_cell (fun _ h => h) HCU.out.2
      have hxI : (x : Int) < (nu : Int) := by omega
      clear D hdom hcu hk1 hlo hhi hlo0 hlohi hhi1 HD
      go_wp2
      clear cx cx1
      go_loopg [16, 17] (hi - lo) (fun gk v16 v17 wi => ∃ (u : Nat) (z : Int), lo ≤ u ∧ u + gk = hi ∧ v17 = .int .i64 u ∧ v16 = .int .i64 z ∧ 0 ≤ z ∧ z ≤ 67108864 ∧ Hid (Kept Nowhere wr wi))
      case atStart => exact ⟨lo, 0, Nat.le_refl _, by omega, rfl, rfl, by omega, by omega, HK1.out⟩
      case round =>
        obtain ⟨u, z, hu0, huk, rfl, rfl, hz0, hz1, HK2⟩ := hrel
        rename World => wi
        by_cases hu : u < hi
        · obtain ⟨bU, oU, rfl, hc⟩ := HU.out.kept HK2.out (by omega)
          obtain ⟨c0, c1, c2⟩ := hc u (by omega)
          have huI : (u : Int) < (nU : Int) := by omega
          have hi1 := HD2.out.item u (by rw [Int.toNat_natCast, HLH.out.1]; omega) (by rw [Int.toNat_natCast, HLH.out.2]; omega)
          have hsp := HD2.out.span u (by rw [Int.toNat_natCast, HLH.out.1]; omega) (by rw [Int.toNat_natCast, HLH.out.2]; omega)
          have hll := HLp.out (U u).item.toNat (by omega)
          obtain ⟨us, hus⟩ : ∃ s, U u = s := ⟨_, rfl⟩
          rw [hus] at c0 c1 c2 hsp hll
          obtain ⟨it, fi, hh⟩ := us
          dsimp only at c0 c1 c2 hsp hll
          obtain ⟨q, rfl⟩ : ∃ q, gk = q + 1 := ⟨gk - 1, by omega⟩
          clear hc hus hi1
          by_cases hfh : fi ≤ hh
          · obtain ⟨s1, s2⟩ := hsp hfh
            have hm0 : 0 ≤ hh - fi + 1 := by omega
            have hm1 : hh - fi + 1 ≤ 4096 := by omega
            have hmm0 : 0 ≤ (hh - fi + 1) * (hh - fi + 1) := Int.mul_nonneg hm0 hm0
            have hmm1 : (hh - fi + 1) * (hh - fi + 1) ≤ 16777216 := Int.le_trans (Int.mul_le_mul hm1 hm1 hm0 (by omega)) (by omega)
            clear hsp hll
            by_cases hw : z + (hh - fi + 1) * (hh - fi + 1) ≤ 67108864
            · go_wp2
              go_roundg q
              case measure => omega
              case rel => exact ⟨u + 1, _, by omega, by omega, by go_num, rfl, by omega, by omega, HK2.out.alloc _⟩
            · go_wp2
              go_ret
              exact ⟨rfl, HK2.out.alloc _⟩
          · have hfh' : decide (fi ≤ hh) = false := by simp; omega
            clear hsp hll
            go_wp2
            go_roundg q
            case measure => omega
            case rel => exact ⟨u + 1, z, by omega, by omega, by go_num, rfl, by omega, by omega, HK2.out.alloc _⟩
        · have HD : Hid (Calls Try.prog 13 _ wi _) := inOrder13 a n k (x : Int) A L C X wi (HX.out.kept HK2.out) (by omega) (fun i hi => by have := HLp.out i hi; omega)
          clear hu0 huk hz0 hz1
          go_upto_region 34 with (go_at_call 13; refine HD.out.mono ?_; rintro e w2 ⟨⟨r, rfl, hord⟩, hk2⟩; cases r)
          · go_ret
            exact ⟨rfl, HK2.out.trans hk2⟩
          have HOR : Hid (∀ i, i < n → OrdRow (X i) (x : Int) (L i)) := hord (by first | rfl | trivial)
          have HK3 : Hid (Kept Nowhere wr w2) := HK2.out.trans hk2
          have HC14 : Hid (Calls Try.prog 14 _ w2 _) := cloneLogs a k n A L C X w2 (HX.out.kept HK3.out) HN.out.1 (by omega) (fun i hi => by have := HLp.out i hi; omega)
          clear hord hk2 HD
          go_upto_region 35 with (go_at_call 14; refine HC14.out.mono ?_; rintro e w3 ⟨a', k', A', C', rfl, hk3, hl3⟩)
          have HX3 : Hid (LogsAt w3 a' n A' L C' X) := hl3
          have HK4 : Hid (Kept Nowhere wr w3) := HK3.out.trans hk3
          have HC15 : Hid (Calls Try.prog 15 _ w3 _) := cloneUses aU kU nU U w3 (HU.out.kept HK4.out) (by omega)
          clear hl3 hk3 HC14
          go_upto_region 36 with (go_at_call 15; refine HC15.out.mono ?_; rintro e w4 ⟨v, rfl, hcl⟩; obtain ⟨aU', kU', rfl, hu4⟩ := hcl.usesAt (fun h1 h2 => h1 (HN.out.2 h2)))
          have HU4 : Hid (UsesAt w4 aU' nU U) := hu4
          have HX4 : Hid (LogsAt w4 a' n A' L C' X) := HX3.out.kept hcl.1
          have HK5 : Hid (Kept Nowhere wr w4) := HK4.out.trans hcl.1
          have HC16 : Hid (Calls Try.prog 16 _ w4 _) := cloneInts (some ⟨bu, ou, none⟩) ku nu O w4 (IntsAt.kept HO.out HK5.out) (by omega)
          clear hu4 hcl HC15 HX3
          go_upto_region 37 with (go_at_call 16; refine HC16.out.mono ?_; rintro e w5 ⟨v, rfl, hcl⟩; obtain ⟨hk5, hcl⟩ := hcl; rcases hcl with ⟨hno, _⟩ | ⟨_, g, hg, rfl, hrow⟩; cases hno)
          have HX5 : Hid (LogsAt w5 a' n A' L C' X) := HX4.out.kept hk5
          have HU5 : Hid (UsesAt w5 aU' nU U) := HU4.out.kept hk5
          have HK6 : Hid (Kept Nowhere wr w5) := HK5.out.trans hk5
          have HO5 : Hid (w5.rowIs g 3 nu (fun i => .int .i64 (O i))) := hrow
          clear hrow hk5 hg HC16 HX4 HU4
          obtain ⟨H, hH⟩ : ∃ H : Hist, H = ⟨X, U, x, y, lo, hi⟩ := ⟨_, rfl⟩
          go_wp2
          have HH : Hid (H.X = X ∧ H.U = U ∧ H.x = (x : Int) ∧ H.y = y ∧ H.lo = lo ∧ H.hi = hi) := by subst hH; exact ⟨rfl, rfl, rfl, rfl, rfl, rfl⟩
          clear hH
          go_loopg [20, 21, 22, 23, 24, 25, 26] (hi - lo) (fun gk v20 v21 v22 v23 v24 v25 v26 wj => ∃ (u : Nat) (o : Option (Nat × Nat × Nat)) (fb : Bool) (k1 i1 j1 x1 y1 : Int), lo ≤ u ∧ u + gk = hi ∧ v26 = .int .i64 u ∧ v20 = .bool fb ∧ v21 = .int .i64 k1 ∧ v22 = .int .i64 i1 ∧ v23 = .int .i64 j1 ∧ v24 = .int .i64 x1 ∧ v25 = .int .i64 y1 ∧ Hid ((fb = o.isSome ∧ k1 = fK H o ∧ i1 = fI o ∧ j1 = fJ o ∧ x1 = fX H o ∧ y1 = fY H o) ∧ Kept Nowhere w5 wj ∧ BestOf H (SeenU lo u) o))
          case atStart => exact ⟨lo, none, false, -1, -1, -1, 0, 0, Nat.le_refl _, by omega, rfl, rfl, rfl, rfl, rfl, rfl, rfl, ⟨rfl, rfl, rfl, rfl, rfl, rfl⟩, Kept.refl _ _, BestOf.start (fun u i j (h : lo ≤ u ∧ u < lo) => by omega)⟩
          case round =>
            obtain ⟨u, o, fb, k1, i1, j1, x1, y1, hu0, huk, rfl, rfl, rfl, rfl, rfl, rfl, rfl, HR⟩ := hrel
            rename World => wj
            by_cases hu : u < hi
            · obtain ⟨bU, oU, rfl, hc⟩ := HU5.out.kept HR.out.2.1 (by omega)
              obtain ⟨c0, c1, c2⟩ := hc u (by omega)
              have huI : (u : Int) < (nU : Int) := by omega
              have hi1 := HD2.out.item u (by rw [Int.toNat_natCast, HLH.out.1]; omega) (by rw [Int.toNat_natCast, HLH.out.2]; omega)
              have hsp := HD2.out.span u (by rw [Int.toNat_natCast, HLH.out.1]; omega) (by rw [Int.toNat_natCast, HLH.out.2]; omega)
              obtain ⟨us, hus⟩ : ∃ s, U u = s := ⟨_, rfl⟩
              rw [hus] at c0 c1 c2 hsp hi1
              obtain ⟨it, fi, hh⟩ := us
              dsimp only at c0 c1 c2 hsp hi1
              obtain ⟨hi0, hi2⟩ := hi1
              obtain ⟨kN, rfl⟩ := Int.eq_ofNat_of_zero_le hi0
              simp only [Int.toNat_natCast] at hsp
              have HUs : Hid (U u = ⟨kN, fi, hh⟩) := hus
              have hkn : kN < n := by omega
              obtain ⟨lk, hlk⟩ : ∃ l, L kN = l := ⟨_, rfl⟩
              rw [hlk] at hsp
              have HSp : Hid (fi ≤ hh → 0 ≤ fi ∧ hh < lk) := hsp
              have hlb : lk ≤ 4096 := by rw [← hlk]; exact HLp.out kN hkn
              obtain ⟨bl, ol, rfl, hcl⟩ := HX5.out.1 (by omega)
              obtain ⟨ak, hak⟩ : ∃ a, A' kN = a := ⟨_, rfl⟩
              obtain ⟨ck, hck⟩ : ∃ a, C' kN = a := ⟨_, rfl⟩
              have lk1 : ∀ ob, (wj.alloc ob).cell? ⟨bl, ol + kN, none⟩ = some (.slice ak lk ck) := fun ob => by
                rw [← hak, ← hlk, ← hck]; exact (HR.out.2.1.alloc ob).nothing_cell (fun _ h => h) (hcl kN hkn)
              have HRow : Hid (∀ W, Kept Nowhere w5 W → StepsAt W ak lk (X kN)) := fun W kw => by rw [← hak, ← hlk]; exact (HX5.out.kept kw).2 kN hkn
              have HRw : Hid (H.row u = X kN) := by show H.X (H.U u).item.toNat = X kN; rw [HH.out.1, HH.out.2.1, HUs.out]; rfl
              obtain ⟨q3, rfl⟩ : ∃ q, gk = q + 1 := ⟨gk - 1, by omega⟩
              clear hc hus hi0 hsp hlk hcl hak hck
              go_wp2
              go_loopg [20, 21, 22, 23, 24, 25, 29] (hh + 1 - fi).toNat (fun ik v20 v21 v22 v23 v24 v25 v29 wi => ∃ (t : Int) (o : Option (Nat × Nat × Nat)) (fb : Bool) (k1 i1 j1 x1 y1 : Int), (hh + 1 - t).toNat = ik ∧ fi ≤ t ∧ v29 = .int .i64 t ∧ v20 = .bool fb ∧ v21 = .int .i64 k1 ∧ v22 = .int .i64 i1 ∧ v23 = .int .i64 j1 ∧ v24 = .int .i64 x1 ∧ v25 = .int .i64 y1 ∧ Hid ((fb = o.isSome ∧ k1 = fK H o ∧ i1 = fI o ∧ j1 = fJ o ∧ x1 = fX H o ∧ y1 = fY H o) ∧ Kept Nowhere w5 wi ∧ BestOf H (SeenJ lo u t) o ∧ wi.cell? ⟨wj.heap.size, 0, none⟩ = some (.int .i64 (kN : Nat)) ∧ wi.cell? ⟨wj.heap.size, 1, none⟩ = some (.int .i64 fi) ∧ wi.cell? ⟨wj.heap.size, 2, none⟩ = some (.int .i64 hh)))
              case atStart =>
                have KK := (Kept.refl Nowhere wj).alloc (.cells #[.int .i64 (kN : Int), .int .i64 fi, .int .i64 hh] 37)
                refine ⟨fi, o, fb, k1, i1, j1, x1, y1, rfl, Int.le_refl _, rfl, rfl, rfl, rfl, rfl, rfl, rfl, HR.out.1, HR.out.2.1.trans KK, ?_, ?_, ?_, ?_⟩
                · have := HR.out.2.2.enter
                  rwa [HH.out.2.1, HUs.out] at this
                · simp only [World.cell?, Deep.blk_alloc_new]; rfl
                · simp only [World.cell?, Deep.blk_alloc_new]; rfl
                · simp only [World.cell?, Deep.blk_alloc_new]; rfl
              case round =>
                obtain ⟨t, o, fb, k1, i1, j1, x1, y1, htk, hft, rfl, rfl, rfl, rfl, rfl, rfl, rfl, HT⟩ := hrel
                rename World => wi
                have u0 := HT.out.2.2.2.1
                have u1 := HT.out.2.2.2.2.1
                have u2 := HT.out.2.2.2.2.2
                have u3 : ∀ ob, (wi.alloc ob).cell? ⟨wj.heap.size, 1, none⟩ = some (.int .i64 fi) := fun ob => ((Kept.refl Nowhere wi).alloc ob).nothing_cell (fun _ h => h) u1
                by_cases ht : t ≤ hh
                · obtain ⟨hf0, hhl⟩ := HSp.out (by omega)
                  obtain ⟨tN, rfl⟩ := Int.eq_ofNat_of_zero_le (show 0 ≤ t by omega)
                  obtain ⟨b2, o2, rfl, hc2⟩ := HRow.out wi HT.out.2.1 (by omega)
                  obtain ⟨c0, c1, c2, c3, c4, c5⟩ := hc2 tN (by omega)
                  have htI : (tN : Int) < (lk : Int) := by omega
                  obtain ⟨s, hs⟩ : ∃ s, X kN tN = s := ⟨_, rfl⟩
                  rw [hs] at c0 c1 c2 c3 c4 c5
                  have HSt : Hid (X kN tN = s) := hs
                  obtain ⟨q4, rfl⟩ : ∃ q, gk = q + 1 := ⟨gk - 1, by omega⟩
                  obtain ⟨p, nd, v, hv, ac, pr⟩ := s
                  dsimp only at c0 c1 c2 c3 c4 c5
                  clear hs hc2
                  by_cases hny : nd = y
                  · subst hny
                    by_cases hyx : nd = (x : Int)
                    · have HSK : Hid ((H.row u tN).node ≠ H.y ∨ H.y = H.x) := .inr (by rw [HH.out.2.2.2.1, HH.out.2.2.1]; exact hyx)
                      have hyx' : (nd == (x : Int)) = true := by simp [hyx]
                      clear hyx
                      go_wp2
                      go_roundg q4
                      case measure => omega
                      case rel =>
                        have KK := (Kept.refl Nowhere wi).alloc (.cells #[.int .i64 p, .int .i64 nd, .int .i64 v, .bool hv, .int .u8 ac, .bool pr] 43)
                        exact ⟨(tN : Int) + 1, o, fb, k1, i1, j1, x1, y1, by omega, by omega, by go_num, rfl, rfl, rfl, rfl, rfl, rfl, HT.out.1, HT.out.2.1.trans KK, HT.out.2.2.1.skipJ HSK.out, KK.nothing_cell (fun _ h => h) HT.out.2.2.2.1, KK.nothing_cell (fun _ h => h) HT.out.2.2.2.2.1, KK.nothing_cell (fun _ h => h) HT.out.2.2.2.2.2⟩
                    · have HYX : Hid (nd ≠ (x : Int)) := hyx
                      have hyx' : (nd == (x : Int)) = false := by simp [hyx]
                      clear hyx
                      go_wp2
                      go_loopg [20, 21, 22, 23, 24, 25, 31] ((tN : Int) - fi).toNat (fun ik v20 v21 v22 v23 v24 v25 v31 w6 => ∃ (s : Int) (o : Option (Nat × Nat × Nat)) (fb : Bool) (k1 i1 j1 x1 y1 : Int), ((tN : Int) - s).toNat = ik ∧ fi ≤ s ∧ v31 = .int .i64 s ∧ v20 = .bool fb ∧ v21 = .int .i64 k1 ∧ v22 = .int .i64 i1 ∧ v23 = .int .i64 j1 ∧ v24 = .int .i64 x1 ∧ v25 = .int .i64 y1 ∧ Hid ((fb = o.isSome ∧ k1 = fK H o ∧ i1 = fI o ∧ j1 = fJ o ∧ x1 = fX H o ∧ y1 = fY H o) ∧ Kept Nowhere w5 w6 ∧ BestOf H (SeenI lo u tN s) o ∧ w6.cell? ⟨wj.heap.size, 0, none⟩ = some (.int .i64 (kN : Nat)) ∧ w6.cell? ⟨wj.heap.size, 1, none⟩ = some (.int .i64 fi) ∧ w6.cell? ⟨wj.heap.size, 2, none⟩ = some (.int .i64 hh) ∧ BoxAt w6 wi.heap.size ⟨p, nd, v, hv, ac, pr⟩))
                      case atStart =>
                        have KK := (Kept.refl Nowhere wi).alloc (.cells #[.int .i64 p, .int .i64 nd, .int .i64 v, .bool hv, .int .u8 ac, .bool pr] 43)
                        refine ⟨fi, o, fb, k1, i1, j1, x1, y1, rfl, Int.le_refl _, rfl, rfl, rfl, rfl, rfl, rfl, rfl, HT.out.1, HT.out.2.1.trans KK, ?_, KK.nothing_cell (fun _ h => h) HT.out.2.2.2.1, KK.nothing_cell (fun _ h => h) HT.out.2.2.2.2.1, KK.nothing_cell (fun _ h => h) HT.out.2.2.2.2.2, box_cells (Kept.refl Nowhere _)⟩
                        have := HT.out.2.2.1.enterI
                        rwa [HH.out.2.1, HUs.out] at this
                      case round =>
                        obtain ⟨s, o, fb, k1, i1, j1, x1, y1, hsk, hs0, rfl, rfl, rfl, rfl, rfl, rfl, rfl, HS⟩ := hrel
                        rename World => w6
                        by_cases hst : s < tN
                        · obtain ⟨sN, rfl⟩ := Int.eq_ofNat_of_zero_le (show 0 ≤ s by omega)
                          obtain ⟨b3, o3, he3, hc3⟩ := HRow.out w6 HS.out.2.1 (by omega)
                          simp only [Option.some.injEq, Addr.mk.injEq, and_true] at he3
                          obtain ⟨rfl, rfl⟩ := he3
                          obtain ⟨c0, c1, c2, c3, c4, c5⟩ := hc3 sN (by omega)
                          have hsI : (sN : Int) < (lk : Int) := by omega
                          obtain ⟨sa, hsa⟩ : ∃ z, X kN sN = z := ⟨_, rfl⟩
                          rw [hsa] at c0 c1 c2 c3 c4 c5
                          have HSa : Hid (X kN sN = sa) := hsa
                          obtain ⟨pa, na, va, hva, aca, pra⟩ := sa
                          dsimp only at c0 c1 c2 c3 c4 c5
                          obtain ⟨q5, rfl⟩ : ∃ q, gk = q + 1 := ⟨gk - 1, by omega⟩
                          have HQ : Hid (∀ W, Kept Nowhere (w6.alloc (.cells #[.int .i64 pa, .int .i64 na, .int .i64 va, .bool hva, .int .u8 aca, .bool pra] 43)) W → BoxAt W w6.heap.size ⟨pa, na, va, hva, aca, pra⟩ ∧ BoxAt W wi.heap.size ⟨p, nd, v, hv, ac, pr⟩ ∧ W.cell? ⟨wj.heap.size, 0, none⟩ = some (.int .i64 (kN : Nat)) ∧ W.cell? ⟨wj.heap.size, 1, none⟩ = some (.int .i64 fi) ∧ W.cell? ⟨wj.heap.size, 2, none⟩ = some (.int .i64 hh)) := fun W k6 =>
                            ⟨box_cells k6, HS.out.2.2.2.2.2.2.kept (((Kept.refl Nowhere w6).alloc _).trans k6), (((Kept.refl Nowhere w6).alloc _).trans k6).nothing_cell (fun _ h => h) HS.out.2.2.2.1, (((Kept.refl Nowhere w6).alloc _).trans k6).nothing_cell (fun _ h => h) HS.out.2.2.2.2.1, (((Kept.refl Nowhere w6).alloc _).trans k6).nothing_cell (fun _ h => h) HS.out.2.2.2.2.2.1⟩
                          obtain ⟨-, ⟨f0, f1, f2, f3, f4, f5⟩, f6, f7, f8⟩ := HQ.out _ (Kept.refl Nowhere _)
                          clear hsa hc3
                          by_cases hnx : na = x
                          · have hnx' : (na != (x : Int)) = false := by simp [hnx]
                            have HNX : Hid (na = (x : Int)) := hnx
                            clear hnx
                            by_cases hsa0 : Stp.sh ⟨pa, na, va, hva, aca, pra⟩ = true
                            · have hsa := hsa0
                              clear hsa0
                              by_cases hsb0 : Stp.sh ⟨p, nd, v, hv, ac, pr⟩ = true
                              · have hsb := hsb0
                                clear hsb0
                                go_wp2_with (first | (go_at_call_of 17 pa; refine (shared17 ⟨pa, na, va, hva, aca, pra⟩ _).mono ?_; rintro e w7 ⟨rfl, hk7⟩; rw [hsa]; have HW7 : Hid (Kept Nowhere (w6.alloc (.cells #[.int .i64 pa, .int .i64 na, .int .i64 va, .bool hva, .int .u8 aca, .bool pra] 43)) w7) := (by first | exact HW7.out.trans hk7 | exact (Kept.refl Nowhere _).trans hk7); obtain ⟨⟨d0, d1, d2, d3, d4, d5⟩, ⟨e0, e1, e2, e3, e4, e5⟩, e6, e7, e8⟩ := HQ.out w7 HW7.out; clear hk7) | (go_at_call_of 17 p; refine (shared17 ⟨p, nd, v, hv, ac, pr⟩ _).mono ?_; rintro e w7 ⟨rfl, hk7⟩; rw [hsb]; have HW7 : Hid (Kept Nowhere (w6.alloc (.cells #[.int .i64 pa, .int .i64 na, .int .i64 va, .bool hva, .int .u8 aca, .bool pra] 43)) w7) := (by first | exact HW7.out.trans hk7 | exact (Kept.refl Nowhere _).trans hk7); obtain ⟨⟨d0, d1, d2, d3, d4, d5⟩, ⟨e0, e1, e2, e3, e4, e5⟩, e6, e7, e8⟩ := HQ.out w7 HW7.out; clear hk7))
                                go_roundg q5
                                case measure => omega
                                case rel =>
                                  have KK := (((Kept.refl Nowhere w6).alloc _).trans HW7.out)
                                  exact ⟨(sN : Int) + 1, o, fb, k1, i1, j1, x1, y1, by omega, by omega, by go_num, rfl, rfl, rfl, rfl, rfl, rfl, HS.out.1, HS.out.2.1.trans KK, HS.out.2.2.1.skipI (by rintro ⟨_, _, _, _, _, _, hc⟩; rw [HRw.out, HSa.out, HSt.out, hsa, hsb] at hc; cases hc), KK.nothing_cell (fun _ h => h) HS.out.2.2.2.1, KK.nothing_cell (fun _ h => h) HS.out.2.2.2.2.1, KK.nothing_cell (fun _ h => h) HS.out.2.2.2.2.2.1, HS.out.2.2.2.2.2.2.kept KK⟩
                              · have hsb : Stp.sh ⟨p, nd, v, hv, ac, pr⟩ = false := by simpa using hsb0
                                clear hsb0
                                have HCf : Hid (H.Cf u sN tN) := ⟨by rw [HH.out.2.1, HUs.out]; exact hs0, by omega, by rw [HH.out.2.1, HUs.out]; exact ht, by rw [HRw.out, HSa.out, HH.out.2.2.1]; exact HNX.out, by rw [HRw.out, HSt.out, HH.out.2.2.2.1], by rw [HH.out.2.2.2.1, HH.out.2.2.1]; exact HYX.out, by rw [HRw.out, HSa.out, HSt.out, hsa, hsb]; rfl⟩
                                have HPP : Hid (H.pp (u, sN, tN) = (pa, p)) := by show ((H.row u sN).pos, (H.row u tN).pos) = (pa, p); rw [HRw.out, HSa.out, HSt.out]
                                cases o with
                                | none =>
                                  obtain rfl : fb = false := HS.out.1.1
                                  have HTK : Hid (∀ b, (none : Option (Nat × Nat × Nat)) = some b → LexLt (H.pp (u, sN, tN)) (H.pp b)) := fun b h => by cases h
                                  go_wp2_with (first | (go_at_call_of 17 pa; refine (shared17 ⟨pa, na, va, hva, aca, pra⟩ _).mono ?_; rintro e w7 ⟨rfl, hk7⟩; rw [hsa]; have HW7 : Hid (Kept Nowhere (w6.alloc (.cells #[.int .i64 pa, .int .i64 na, .int .i64 va, .bool hva, .int .u8 aca, .bool pra] 43)) w7) := (by first | exact HW7.out.trans hk7 | exact (Kept.refl Nowhere _).trans hk7); obtain ⟨⟨d0, d1, d2, d3, d4, d5⟩, ⟨e0, e1, e2, e3, e4, e5⟩, e6, e7, e8⟩ := HQ.out w7 HW7.out; clear hk7) | (go_at_call_of 17 p; refine (shared17 ⟨p, nd, v, hv, ac, pr⟩ _).mono ?_; rintro e w7 ⟨rfl, hk7⟩; rw [hsb]; have HW7 : Hid (Kept Nowhere (w6.alloc (.cells #[.int .i64 pa, .int .i64 na, .int .i64 va, .bool hva, .int .u8 aca, .bool pra] 43)) w7) := (by first | exact HW7.out.trans hk7 | exact (Kept.refl Nowhere _).trans hk7); obtain ⟨⟨d0, d1, d2, d3, d4, d5⟩, ⟨e0, e1, e2, e3, e4, e5⟩, e6, e7, e8⟩ := HQ.out w7 HW7.out; clear hk7))
                                  go_roundg q5
                                  case measure => omega
                                  case rel =>
                                    have KK := (((Kept.refl Nowhere w6).alloc _).trans HW7.out)
                                    refine ⟨(sN : Int) + 1, some (u, sN, tN), true, kN, sN, tN, pa, p, by omega, by omega, by go_num, rfl, rfl, rfl, rfl, rfl, rfl, ⟨rfl, ?_, rfl, rfl, ?_, ?_⟩, HS.out.2.1.trans KK, HS.out.2.2.1.takeI HCf.out (by rw [HH.out.2.2.2.2.1, HH.out.2.2.2.2.2]; omega) HTK.out, KK.nothing_cell (fun _ h => h) HS.out.2.2.2.1, KK.nothing_cell (fun _ h => h) HS.out.2.2.2.2.1, KK.nothing_cell (fun _ h => h) HS.out.2.2.2.2.2.1, HS.out.2.2.2.2.2.2.kept KK⟩
                                    · show (kN : Int) = (H.U u).item; rw [HH.out.2.1, HUs.out]
                                    · show pa = (H.pp (u, sN, tN)).1; rw [HPP.out]
                                    · show p = (H.pp (u, sN, tN)).2; rw [HPP.out]
                                | some bb =>
                                  obtain rfl : fb = true := HS.out.1.1
                                  have HQQ : Hid (H.pp bb = (x1, y1)) := by show H.pp bb = _; rw [HS.out.1.2.2.2.2.1, HS.out.1.2.2.2.2.2]; rfl
                                  by_cases hq1 : pa < x1
                                  · have HTK : Hid (∀ b, (some bb : Option (Nat × Nat × Nat)) = some b → LexLt (H.pp (u, sN, tN)) (H.pp b)) := fun b h => by
                                      cases h; rw [HPP.out, HQQ.out]; exact .inl hq1
                                    go_wp2_with (first | (go_at_call_of 17 pa; refine (shared17 ⟨pa, na, va, hva, aca, pra⟩ _).mono ?_; rintro e w7 ⟨rfl, hk7⟩; rw [hsa]; have HW7 : Hid (Kept Nowhere (w6.alloc (.cells #[.int .i64 pa, .int .i64 na, .int .i64 va, .bool hva, .int .u8 aca, .bool pra] 43)) w7) := (by first | exact HW7.out.trans hk7 | exact (Kept.refl Nowhere _).trans hk7); obtain ⟨⟨d0, d1, d2, d3, d4, d5⟩, ⟨e0, e1, e2, e3, e4, e5⟩, e6, e7, e8⟩ := HQ.out w7 HW7.out; clear hk7) | (go_at_call_of 17 p; refine (shared17 ⟨p, nd, v, hv, ac, pr⟩ _).mono ?_; rintro e w7 ⟨rfl, hk7⟩; rw [hsb]; have HW7 : Hid (Kept Nowhere (w6.alloc (.cells #[.int .i64 pa, .int .i64 na, .int .i64 va, .bool hva, .int .u8 aca, .bool pra] 43)) w7) := (by first | exact HW7.out.trans hk7 | exact (Kept.refl Nowhere _).trans hk7); obtain ⟨⟨d0, d1, d2, d3, d4, d5⟩, ⟨e0, e1, e2, e3, e4, e5⟩, e6, e7, e8⟩ := HQ.out w7 HW7.out; clear hk7))
                                    go_roundg q5
                                    case measure => omega
                                    case rel =>
                                      have KK := (((Kept.refl Nowhere w6).alloc _).trans HW7.out)
                                      refine ⟨(sN : Int) + 1, some (u, sN, tN), true, kN, sN, tN, pa, p, by omega, by omega, by go_num, rfl, rfl, rfl, rfl, rfl, rfl, ⟨rfl, ?_, rfl, rfl, ?_, ?_⟩, HS.out.2.1.trans KK, HS.out.2.2.1.takeI HCf.out (by rw [HH.out.2.2.2.2.1, HH.out.2.2.2.2.2]; omega) HTK.out, KK.nothing_cell (fun _ h => h) HS.out.2.2.2.1, KK.nothing_cell (fun _ h => h) HS.out.2.2.2.2.1, KK.nothing_cell (fun _ h => h) HS.out.2.2.2.2.2.1, HS.out.2.2.2.2.2.2.kept KK⟩
                                      · show (kN : Int) = (H.U u).item; rw [HH.out.2.1, HUs.out]
                                      · show pa = (H.pp (u, sN, tN)).1; rw [HPP.out]
                                      · show p = (H.pp (u, sN, tN)).2; rw [HPP.out]
                                  · have hq1' : decide (pa < x1) = false := by simp; omega
                                    by_cases hq2 : pa = x1
                                    · subst hq2
                                      by_cases hq3 : p < y1
                                      · have HTK : Hid (∀ b, (some bb : Option (Nat × Nat × Nat)) = some b → LexLt (H.pp (u, sN, tN)) (H.pp b)) := fun b h => by
                                          cases h; rw [HPP.out, HQQ.out]; exact .inr ⟨rfl, hq3⟩
                                        clear hq1
                                        go_wp2_with (first | (go_at_call_of 17 pa; refine (shared17 ⟨pa, na, va, hva, aca, pra⟩ _).mono ?_; rintro e w7 ⟨rfl, hk7⟩; rw [hsa]; have HW7 : Hid (Kept Nowhere (w6.alloc (.cells #[.int .i64 pa, .int .i64 na, .int .i64 va, .bool hva, .int .u8 aca, .bool pra] 43)) w7) := (by first | exact HW7.out.trans hk7 | exact (Kept.refl Nowhere _).trans hk7); obtain ⟨⟨d0, d1, d2, d3, d4, d5⟩, ⟨e0, e1, e2, e3, e4, e5⟩, e6, e7, e8⟩ := HQ.out w7 HW7.out; clear hk7) | (go_at_call_of 17 p; refine (shared17 ⟨p, nd, v, hv, ac, pr⟩ _).mono ?_; rintro e w7 ⟨rfl, hk7⟩; rw [hsb]; have HW7 : Hid (Kept Nowhere (w6.alloc (.cells #[.int .i64 pa, .int .i64 na, .int .i64 va, .bool hva, .int .u8 aca, .bool pra] 43)) w7) := (by first | exact HW7.out.trans hk7 | exact (Kept.refl Nowhere _).trans hk7); obtain ⟨⟨d0, d1, d2, d3, d4, d5⟩, ⟨e0, e1, e2, e3, e4, e5⟩, e6, e7, e8⟩ := HQ.out w7 HW7.out; clear hk7))
                                        go_roundg q5
                                        case measure => omega
                                        case rel =>
                                          have KK := (((Kept.refl Nowhere w6).alloc _).trans HW7.out)
                                          refine ⟨(sN : Int) + 1, some (u, sN, tN), true, kN, sN, tN, pa, p, by omega, by omega, by go_num, rfl, rfl, rfl, rfl, rfl, rfl, ⟨rfl, ?_, rfl, rfl, ?_, ?_⟩, HS.out.2.1.trans KK, HS.out.2.2.1.takeI HCf.out (by rw [HH.out.2.2.2.2.1, HH.out.2.2.2.2.2]; omega) HTK.out, KK.nothing_cell (fun _ h => h) HS.out.2.2.2.1, KK.nothing_cell (fun _ h => h) HS.out.2.2.2.2.1, KK.nothing_cell (fun _ h => h) HS.out.2.2.2.2.2.1, HS.out.2.2.2.2.2.2.kept KK⟩
                                          · show (kN : Int) = (H.U u).item; rw [HH.out.2.1, HUs.out]
                                          · show pa = (H.pp (u, sN, tN)).1; rw [HPP.out]
                                          · show p = (H.pp (u, sN, tN)).2; rw [HPP.out]
                                      · have HNL : Hid (¬ LexLt (H.pp (u, sN, tN)) (H.pp bb)) := by
                                          show ¬ _; rw [HPP.out, HQQ.out]; unfold LexLt; simp only; omega
                                        have hq3' : decide (p < y1) = false := by simp; omega
                                        clear hq1 hq3
                                        go_wp2_with (first | (go_at_call_of 17 pa; refine (shared17 ⟨pa, na, va, hva, aca, pra⟩ _).mono ?_; rintro e w7 ⟨rfl, hk7⟩; rw [hsa]; have HW7 : Hid (Kept Nowhere (w6.alloc (.cells #[.int .i64 pa, .int .i64 na, .int .i64 va, .bool hva, .int .u8 aca, .bool pra] 43)) w7) := (by first | exact HW7.out.trans hk7 | exact (Kept.refl Nowhere _).trans hk7); obtain ⟨⟨d0, d1, d2, d3, d4, d5⟩, ⟨e0, e1, e2, e3, e4, e5⟩, e6, e7, e8⟩ := HQ.out w7 HW7.out; clear hk7) | (go_at_call_of 17 p; refine (shared17 ⟨p, nd, v, hv, ac, pr⟩ _).mono ?_; rintro e w7 ⟨rfl, hk7⟩; rw [hsb]; have HW7 : Hid (Kept Nowhere (w6.alloc (.cells #[.int .i64 pa, .int .i64 na, .int .i64 va, .bool hva, .int .u8 aca, .bool pra] 43)) w7) := (by first | exact HW7.out.trans hk7 | exact (Kept.refl Nowhere _).trans hk7); obtain ⟨⟨d0, d1, d2, d3, d4, d5⟩, ⟨e0, e1, e2, e3, e4, e5⟩, e6, e7, e8⟩ := HQ.out w7 HW7.out; clear hk7))
                                        go_roundg q5
                                        case measure => omega
                                        case rel =>
                                          have KK := (((Kept.refl Nowhere w6).alloc _).trans HW7.out)
                                          exact ⟨(sN : Int) + 1, some bb, true, k1, i1, j1, pa, y1, by omega, by omega, by go_num, rfl, rfl, rfl, rfl, rfl, rfl, HS.out.1, HS.out.2.1.trans KK, HS.out.2.2.1.leaveI bb rfl HNL.out, KK.nothing_cell (fun _ h => h) HS.out.2.2.2.1, KK.nothing_cell (fun _ h => h) HS.out.2.2.2.2.1, KK.nothing_cell (fun _ h => h) HS.out.2.2.2.2.2.1, HS.out.2.2.2.2.2.2.kept KK⟩
                                    · have HNL : Hid (¬ LexLt (H.pp (u, sN, tN)) (H.pp bb)) := by
                                        show ¬ _; rw [HPP.out, HQQ.out]; unfold LexLt; simp only; omega
                                      have hq2' : (pa == x1) = false := by simp [hq2]
                                      clear hq1 hq2
                                      go_wp2_with (first | (go_at_call_of 17 pa; refine (shared17 ⟨pa, na, va, hva, aca, pra⟩ _).mono ?_; rintro e w7 ⟨rfl, hk7⟩; rw [hsa]; have HW7 : Hid (Kept Nowhere (w6.alloc (.cells #[.int .i64 pa, .int .i64 na, .int .i64 va, .bool hva, .int .u8 aca, .bool pra] 43)) w7) := (by first | exact HW7.out.trans hk7 | exact (Kept.refl Nowhere _).trans hk7); obtain ⟨⟨d0, d1, d2, d3, d4, d5⟩, ⟨e0, e1, e2, e3, e4, e5⟩, e6, e7, e8⟩ := HQ.out w7 HW7.out; clear hk7) | (go_at_call_of 17 p; refine (shared17 ⟨p, nd, v, hv, ac, pr⟩ _).mono ?_; rintro e w7 ⟨rfl, hk7⟩; rw [hsb]; have HW7 : Hid (Kept Nowhere (w6.alloc (.cells #[.int .i64 pa, .int .i64 na, .int .i64 va, .bool hva, .int .u8 aca, .bool pra] 43)) w7) := (by first | exact HW7.out.trans hk7 | exact (Kept.refl Nowhere _).trans hk7); obtain ⟨⟨d0, d1, d2, d3, d4, d5⟩, ⟨e0, e1, e2, e3, e4, e5⟩, e6, e7, e8⟩ := HQ.out w7 HW7.out; clear hk7))
                                      go_roundg q5
                                      case measure => omega
                                      case rel =>
                                        have KK := (((Kept.refl Nowhere w6).alloc _).trans HW7.out)
                                        exact ⟨(sN : Int) + 1, some bb, true, k1, i1, j1, x1, y1, by omega, by omega, by go_num, rfl, rfl, rfl, rfl, rfl, rfl, HS.out.1, HS.out.2.1.trans KK, HS.out.2.2.1.leaveI bb rfl HNL.out, KK.nothing_cell (fun _ h => h) HS.out.2.2.2.1, KK.nothing_cell (fun _ h => h) HS.out.2.2.2.2.1, KK.nothing_cell (fun _ h => h) HS.out.2.2.2.2.2.1, HS.out.2.2.2.2.2.2.kept KK⟩
                            · have hsa : Stp.sh ⟨pa, na, va, hva, aca, pra⟩ = false := by simpa using hsa0
                              clear hsa0
                              obtain ⟨sb, hsb⟩ : ∃ b, Stp.sh ⟨p, nd, v, hv, ac, pr⟩ = b := ⟨_, rfl⟩
                              have HCf : Hid (H.Cf u sN tN) := ⟨by rw [HH.out.2.1, HUs.out]; exact hs0, by omega, by rw [HH.out.2.1, HUs.out]; exact ht, by rw [HRw.out, HSa.out, HH.out.2.2.1]; exact HNX.out, by rw [HRw.out, HSt.out, HH.out.2.2.2.1], by rw [HH.out.2.2.2.1, HH.out.2.2.1]; exact HYX.out, by rw [HRw.out, HSa.out, HSt.out, hsa]; rfl⟩
                              have HPP : Hid (H.pp (u, sN, tN) = (pa, p)) := by show ((H.row u sN).pos, (H.row u tN).pos) = (pa, p); rw [HRw.out, HSa.out, HSt.out]
                              cases o with
                              | none =>
                                obtain rfl : fb = false := HS.out.1.1
                                have HTK : Hid (∀ b, (none : Option (Nat × Nat × Nat)) = some b → LexLt (H.pp (u, sN, tN)) (H.pp b)) := fun b h => by cases h
                                go_wp2_with (first | (go_at_call_of 17 pa; refine (shared17 ⟨pa, na, va, hva, aca, pra⟩ _).mono ?_; rintro e w7 ⟨rfl, hk7⟩; rw [hsa]; have HW7 : Hid (Kept Nowhere (w6.alloc (.cells #[.int .i64 pa, .int .i64 na, .int .i64 va, .bool hva, .int .u8 aca, .bool pra] 43)) w7) := (by first | exact HW7.out.trans hk7 | exact (Kept.refl Nowhere _).trans hk7); obtain ⟨⟨d0, d1, d2, d3, d4, d5⟩, ⟨e0, e1, e2, e3, e4, e5⟩, e6, e7, e8⟩ := HQ.out w7 HW7.out; clear hk7) | (go_at_call_of 17 p; refine (shared17 ⟨p, nd, v, hv, ac, pr⟩ _).mono ?_; rintro e w7 ⟨rfl, hk7⟩; rw [hsb]; have HW7 : Hid (Kept Nowhere (w6.alloc (.cells #[.int .i64 pa, .int .i64 na, .int .i64 va, .bool hva, .int .u8 aca, .bool pra] 43)) w7) := (by first | exact HW7.out.trans hk7 | exact (Kept.refl Nowhere _).trans hk7); obtain ⟨⟨d0, d1, d2, d3, d4, d5⟩, ⟨e0, e1, e2, e3, e4, e5⟩, e6, e7, e8⟩ := HQ.out w7 HW7.out; clear hk7))
                                go_roundg q5
                                case measure => omega
                                case rel =>
                                  have KK := (((Kept.refl Nowhere w6).alloc _).trans HW7.out)
                                  refine ⟨(sN : Int) + 1, some (u, sN, tN), true, kN, sN, tN, pa, p, by omega, by omega, by go_num, rfl, rfl, rfl, rfl, rfl, rfl, ⟨rfl, ?_, rfl, rfl, ?_, ?_⟩, HS.out.2.1.trans KK, HS.out.2.2.1.takeI HCf.out (by rw [HH.out.2.2.2.2.1, HH.out.2.2.2.2.2]; omega) HTK.out, KK.nothing_cell (fun _ h => h) HS.out.2.2.2.1, KK.nothing_cell (fun _ h => h) HS.out.2.2.2.2.1, KK.nothing_cell (fun _ h => h) HS.out.2.2.2.2.2.1, HS.out.2.2.2.2.2.2.kept KK⟩
                                  · show (kN : Int) = (H.U u).item; rw [HH.out.2.1, HUs.out]
                                  · show pa = (H.pp (u, sN, tN)).1; rw [HPP.out]
                                  · show p = (H.pp (u, sN, tN)).2; rw [HPP.out]
                              | some bb =>
                                obtain rfl : fb = true := HS.out.1.1
                                have HQQ : Hid (H.pp bb = (x1, y1)) := by show H.pp bb = _; rw [HS.out.1.2.2.2.2.1, HS.out.1.2.2.2.2.2]; rfl
                                by_cases hq1 : pa < x1
                                · have HTK : Hid (∀ b, (some bb : Option (Nat × Nat × Nat)) = some b → LexLt (H.pp (u, sN, tN)) (H.pp b)) := fun b h => by
                                    cases h; rw [HPP.out, HQQ.out]; exact .inl hq1
                                  go_wp2_with (first | (go_at_call_of 17 pa; refine (shared17 ⟨pa, na, va, hva, aca, pra⟩ _).mono ?_; rintro e w7 ⟨rfl, hk7⟩; rw [hsa]; have HW7 : Hid (Kept Nowhere (w6.alloc (.cells #[.int .i64 pa, .int .i64 na, .int .i64 va, .bool hva, .int .u8 aca, .bool pra] 43)) w7) := (by first | exact HW7.out.trans hk7 | exact (Kept.refl Nowhere _).trans hk7); obtain ⟨⟨d0, d1, d2, d3, d4, d5⟩, ⟨e0, e1, e2, e3, e4, e5⟩, e6, e7, e8⟩ := HQ.out w7 HW7.out; clear hk7) | (go_at_call_of 17 p; refine (shared17 ⟨p, nd, v, hv, ac, pr⟩ _).mono ?_; rintro e w7 ⟨rfl, hk7⟩; rw [hsb]; have HW7 : Hid (Kept Nowhere (w6.alloc (.cells #[.int .i64 pa, .int .i64 na, .int .i64 va, .bool hva, .int .u8 aca, .bool pra] 43)) w7) := (by first | exact HW7.out.trans hk7 | exact (Kept.refl Nowhere _).trans hk7); obtain ⟨⟨d0, d1, d2, d3, d4, d5⟩, ⟨e0, e1, e2, e3, e4, e5⟩, e6, e7, e8⟩ := HQ.out w7 HW7.out; clear hk7))
                                  go_roundg q5
                                  case measure => omega
                                  case rel =>
                                    have KK := (((Kept.refl Nowhere w6).alloc _).trans HW7.out)
                                    refine ⟨(sN : Int) + 1, some (u, sN, tN), true, kN, sN, tN, pa, p, by omega, by omega, by go_num, rfl, rfl, rfl, rfl, rfl, rfl, ⟨rfl, ?_, rfl, rfl, ?_, ?_⟩, HS.out.2.1.trans KK, HS.out.2.2.1.takeI HCf.out (by rw [HH.out.2.2.2.2.1, HH.out.2.2.2.2.2]; omega) HTK.out, KK.nothing_cell (fun _ h => h) HS.out.2.2.2.1, KK.nothing_cell (fun _ h => h) HS.out.2.2.2.2.1, KK.nothing_cell (fun _ h => h) HS.out.2.2.2.2.2.1, HS.out.2.2.2.2.2.2.kept KK⟩
                                    · show (kN : Int) = (H.U u).item; rw [HH.out.2.1, HUs.out]
                                    · show pa = (H.pp (u, sN, tN)).1; rw [HPP.out]
                                    · show p = (H.pp (u, sN, tN)).2; rw [HPP.out]
                                · have hq1' : decide (pa < x1) = false := by simp; omega
                                  by_cases hq2 : pa = x1
                                  · subst hq2
                                    by_cases hq3 : p < y1
                                    · have HTK : Hid (∀ b, (some bb : Option (Nat × Nat × Nat)) = some b → LexLt (H.pp (u, sN, tN)) (H.pp b)) := fun b h => by
                                        cases h; rw [HPP.out, HQQ.out]; exact .inr ⟨rfl, hq3⟩
                                      clear hq1
                                      go_wp2_with (first | (go_at_call_of 17 pa; refine (shared17 ⟨pa, na, va, hva, aca, pra⟩ _).mono ?_; rintro e w7 ⟨rfl, hk7⟩; rw [hsa]; have HW7 : Hid (Kept Nowhere (w6.alloc (.cells #[.int .i64 pa, .int .i64 na, .int .i64 va, .bool hva, .int .u8 aca, .bool pra] 43)) w7) := (by first | exact HW7.out.trans hk7 | exact (Kept.refl Nowhere _).trans hk7); obtain ⟨⟨d0, d1, d2, d3, d4, d5⟩, ⟨e0, e1, e2, e3, e4, e5⟩, e6, e7, e8⟩ := HQ.out w7 HW7.out; clear hk7) | (go_at_call_of 17 p; refine (shared17 ⟨p, nd, v, hv, ac, pr⟩ _).mono ?_; rintro e w7 ⟨rfl, hk7⟩; rw [hsb]; have HW7 : Hid (Kept Nowhere (w6.alloc (.cells #[.int .i64 pa, .int .i64 na, .int .i64 va, .bool hva, .int .u8 aca, .bool pra] 43)) w7) := (by first | exact HW7.out.trans hk7 | exact (Kept.refl Nowhere _).trans hk7); obtain ⟨⟨d0, d1, d2, d3, d4, d5⟩, ⟨e0, e1, e2, e3, e4, e5⟩, e6, e7, e8⟩ := HQ.out w7 HW7.out; clear hk7))
                                      go_roundg q5
                                      case measure => omega
                                      case rel =>
                                        have KK := (((Kept.refl Nowhere w6).alloc _).trans HW7.out)
                                        refine ⟨(sN : Int) + 1, some (u, sN, tN), true, kN, sN, tN, pa, p, by omega, by omega, by go_num, rfl, rfl, rfl, rfl, rfl, rfl, ⟨rfl, ?_, rfl, rfl, ?_, ?_⟩, HS.out.2.1.trans KK, HS.out.2.2.1.takeI HCf.out (by rw [HH.out.2.2.2.2.1, HH.out.2.2.2.2.2]; omega) HTK.out, KK.nothing_cell (fun _ h => h) HS.out.2.2.2.1, KK.nothing_cell (fun _ h => h) HS.out.2.2.2.2.1, KK.nothing_cell (fun _ h => h) HS.out.2.2.2.2.2.1, HS.out.2.2.2.2.2.2.kept KK⟩
                                        · show (kN : Int) = (H.U u).item; rw [HH.out.2.1, HUs.out]
                                        · show pa = (H.pp (u, sN, tN)).1; rw [HPP.out]
                                        · show p = (H.pp (u, sN, tN)).2; rw [HPP.out]
                                    · have HNL : Hid (¬ LexLt (H.pp (u, sN, tN)) (H.pp bb)) := by
                                        show ¬ _; rw [HPP.out, HQQ.out]; unfold LexLt; simp only; omega
                                      have hq3' : decide (p < y1) = false := by simp; omega
                                      clear hq1 hq3
                                      go_wp2_with (first | (go_at_call_of 17 pa; refine (shared17 ⟨pa, na, va, hva, aca, pra⟩ _).mono ?_; rintro e w7 ⟨rfl, hk7⟩; rw [hsa]; have HW7 : Hid (Kept Nowhere (w6.alloc (.cells #[.int .i64 pa, .int .i64 na, .int .i64 va, .bool hva, .int .u8 aca, .bool pra] 43)) w7) := (by first | exact HW7.out.trans hk7 | exact (Kept.refl Nowhere _).trans hk7); obtain ⟨⟨d0, d1, d2, d3, d4, d5⟩, ⟨e0, e1, e2, e3, e4, e5⟩, e6, e7, e8⟩ := HQ.out w7 HW7.out; clear hk7) | (go_at_call_of 17 p; refine (shared17 ⟨p, nd, v, hv, ac, pr⟩ _).mono ?_; rintro e w7 ⟨rfl, hk7⟩; rw [hsb]; have HW7 : Hid (Kept Nowhere (w6.alloc (.cells #[.int .i64 pa, .int .i64 na, .int .i64 va, .bool hva, .int .u8 aca, .bool pra] 43)) w7) := (by first | exact HW7.out.trans hk7 | exact (Kept.refl Nowhere _).trans hk7); obtain ⟨⟨d0, d1, d2, d3, d4, d5⟩, ⟨e0, e1, e2, e3, e4, e5⟩, e6, e7, e8⟩ := HQ.out w7 HW7.out; clear hk7))
                                      go_roundg q5
                                      case measure => omega
                                      case rel =>
                                        have KK := (((Kept.refl Nowhere w6).alloc _).trans HW7.out)
                                        exact ⟨(sN : Int) + 1, some bb, true, k1, i1, j1, pa, y1, by omega, by omega, by go_num, rfl, rfl, rfl, rfl, rfl, rfl, HS.out.1, HS.out.2.1.trans KK, HS.out.2.2.1.leaveI bb rfl HNL.out, KK.nothing_cell (fun _ h => h) HS.out.2.2.2.1, KK.nothing_cell (fun _ h => h) HS.out.2.2.2.2.1, KK.nothing_cell (fun _ h => h) HS.out.2.2.2.2.2.1, HS.out.2.2.2.2.2.2.kept KK⟩
                                  · have HNL : Hid (¬ LexLt (H.pp (u, sN, tN)) (H.pp bb)) := by
                                      show ¬ _; rw [HPP.out, HQQ.out]; unfold LexLt; simp only; omega
                                    have hq2' : (pa == x1) = false := by simp [hq2]
                                    clear hq1 hq2
                                    go_wp2_with (first | (go_at_call_of 17 pa; refine (shared17 ⟨pa, na, va, hva, aca, pra⟩ _).mono ?_; rintro e w7 ⟨rfl, hk7⟩; rw [hsa]; have HW7 : Hid (Kept Nowhere (w6.alloc (.cells #[.int .i64 pa, .int .i64 na, .int .i64 va, .bool hva, .int .u8 aca, .bool pra] 43)) w7) := (by first | exact HW7.out.trans hk7 | exact (Kept.refl Nowhere _).trans hk7); obtain ⟨⟨d0, d1, d2, d3, d4, d5⟩, ⟨e0, e1, e2, e3, e4, e5⟩, e6, e7, e8⟩ := HQ.out w7 HW7.out; clear hk7) | (go_at_call_of 17 p; refine (shared17 ⟨p, nd, v, hv, ac, pr⟩ _).mono ?_; rintro e w7 ⟨rfl, hk7⟩; rw [hsb]; have HW7 : Hid (Kept Nowhere (w6.alloc (.cells #[.int .i64 pa, .int .i64 na, .int .i64 va, .bool hva, .int .u8 aca, .bool pra] 43)) w7) := (by first | exact HW7.out.trans hk7 | exact (Kept.refl Nowhere _).trans hk7); obtain ⟨⟨d0, d1, d2, d3, d4, d5⟩, ⟨e0, e1, e2, e3, e4, e5⟩, e6, e7, e8⟩ := HQ.out w7 HW7.out; clear hk7))
                                    go_roundg q5
                                    case measure => omega
                                    case rel =>
                                      have KK := (((Kept.refl Nowhere w6).alloc _).trans HW7.out)
                                      exact ⟨(sN : Int) + 1, some bb, true, k1, i1, j1, x1, y1, by omega, by omega, by go_num, rfl, rfl, rfl, rfl, rfl, rfl, HS.out.1, HS.out.2.1.trans KK, HS.out.2.2.1.leaveI bb rfl HNL.out, KK.nothing_cell (fun _ h => h) HS.out.2.2.2.1, KK.nothing_cell (fun _ h => h) HS.out.2.2.2.2.1, KK.nothing_cell (fun _ h => h) HS.out.2.2.2.2.2.1, HS.out.2.2.2.2.2.2.kept KK⟩
                          · have hnx' : (na != (x : Int)) = true := by simp [hnx]
                            have HNX : Hid (¬ na = (x : Int)) := hnx
                            clear hnx
                            go_wp2
                            go_roundg q5
                            case measure => omega
                            case rel =>
                              have KK := (Kept.refl Nowhere w6).alloc (.cells #[.int .i64 pa, .int .i64 na, .int .i64 va, .bool hva, .int .u8 aca, .bool pra] 43)
                              exact ⟨(sN : Int) + 1, o, fb, k1, i1, j1, x1, y1, by omega, by omega, by go_num, rfl, rfl, rfl, rfl, rfl, rfl, HS.out.1, HS.out.2.1.trans KK, HS.out.2.2.1.skipI (by rintro ⟨_, _, _, hc, _⟩; rw [HRw.out, HSa.out, HH.out.2.2.1] at hc; exact HNX.out hc), KK.nothing_cell (fun _ h => h) HS.out.2.2.2.1, KK.nothing_cell (fun _ h => h) HS.out.2.2.2.2.1, KK.nothing_cell (fun _ h => h) HS.out.2.2.2.2.2.1, HS.out.2.2.2.2.2.2.kept KK⟩
                        · have hst' : decide (s < (tN : Int)) = false := by simp; omega
                          obtain ⟨u0, u1, u2⟩ := (⟨HS.out.2.2.2.1, HS.out.2.2.2.2.1, HS.out.2.2.2.2.2.1⟩ : _ ∧ _ ∧ _)
                          go_wp2
                          go_roundg q4
                          case measure => omega
                          case rel => exact ⟨(tN : Int) + 1, o, fb, k1, i1, j1, x1, y1, by omega, by omega, by go_num, rfl, rfl, rfl, rfl, rfl, rfl, HS.out.1, HS.out.2.1, HS.out.2.2.1.doneI (by omega), HS.out.2.2.2.1, HS.out.2.2.2.2.1, HS.out.2.2.2.2.2.1⟩
                  · have HSK : Hid ((H.row u tN).node ≠ H.y ∨ H.y = H.x) := .inl (by rw [HRw.out, HSt.out, HH.out.2.2.2.1]; exact hny)
                    have hny' : (nd != y) = true := by simp [hny]
                    go_wp2
                    go_roundg q4
                    case measure => omega
                    case rel =>
                      have KK := (Kept.refl Nowhere wi).alloc (.cells #[.int .i64 p, .int .i64 nd, .int .i64 v, .bool hv, .int .u8 ac, .bool pr] 43)
                      exact ⟨(tN : Int) + 1, o, fb, k1, i1, j1, x1, y1, by omega, by omega, by go_num, rfl, rfl, rfl, rfl, rfl, rfl, HT.out.1, HT.out.2.1.trans KK, HT.out.2.2.1.skipJ HSK.out, KK.nothing_cell (fun _ h => h) HT.out.2.2.2.1, KK.nothing_cell (fun _ h => h) HT.out.2.2.2.2.1, KK.nothing_cell (fun _ h => h) HT.out.2.2.2.2.2⟩
                · have hbh : decide (t ≤ hh) = false := by simp; omega
                  go_wp2
                  go_roundg q3
                  case measure => omega
                  case rel => exact ⟨u + 1, o, fb, k1, i1, j1, x1, y1, by omega, by omega, by go_num, rfl, rfl, rfl, rfl, rfl, rfl, HT.out.1, HT.out.2.1, HT.out.2.2.1.done (by rw [HH.out.2.1, HUs.out]; show hh < t; omega)⟩
            · obtain rfl : hi = u := by omega
              have HUOK : Hid (UOK n L U lo hi) := fun ui h0 h1 => ⟨HD2.out.item ui (by rw [Int.toNat_natCast, HLH.out.1]; omega) (by rw [Int.toNat_natCast, HLH.out.2]; omega), HD2.out.span ui (by rw [Int.toNat_natCast, HLH.out.1]; omega) (by rw [Int.toNat_natCast, HLH.out.2]; omega)⟩
              have HA18 : Hid (Args18 H n nU nu x g 0 L wj) := by
                have r := HR.out.2.1.row HO5.out (fun h => h)
                refine ⟨HH.out.2.2.1, ?_, ?_, by omega, by omega, by rw [HH.out.2.2.2.2.1, HH.out.2.2.2.2.2]; omega, by rw [HH.out.2.2.2.2.2]; omega, by omega, by omega, fun i hi => by have := HLp.out i hi; omega, by rw [HH.out.2.1, HH.out.2.2.2.2.1, HH.out.2.2.2.2.2]; exact HUOK.out, by rw [HH.out.1]; exact HD2.out.pos0, by rw [HH.out.1, HH.out.2.2.1]; exact HOR.out⟩
                · rw [Nat.zero_add, HH.out.2.2.2.2.1, ← HLH.out.1]; exact r.cell (by omega)
                · rw [Nat.zero_add, HH.out.2.2.2.2.2, ← HLH.out.2]; exact r.cell (by omega)
              have HC18 : Hid (∀ (_ : Unit), _) := fun _ => zzwitnessOf18 H a' aU' n k' nU kU' nu nu x g 0 A' L C' wj (by rw [HH.out.1]; exact HX5.out.kept HR.out.2.1) (by rw [HH.out.2.1]; exact HU5.out.kept HR.out.2.1) HA18.out
              have HSame : Hid (∀ o', BestOf H (SeenU H.lo H.hi) o' → itemOf H o' = fK H o ∧ bS H o' = bS H o ∧ bT H o' = bT H o) := fun o' hb' => brute_same (by rw [HH.out.2.2.2.2.1, HH.out.2.2.2.2.2]; exact HR.out.2.2) hb' (n := n) (L := L) (by rw [HH.out.1]; exact HD2.out.inj) (by rw [HH.out.2.1, HH.out.2.2.2.2.1, HH.out.2.2.2.2.2]; exact HUOK.out)
              have HKR : Hid (Kept Nowhere wr wj) := HK6.out.trans HR.out.2.1
              cases o with
              | none =>
                obtain rfl : fb = false := HR.out.1.1
                go_wp2_with (go_at_call 18; rw [← HH.out.2.2.2.1]; refine (HC18.out ()).mono ?_; rintro e w6 ⟨⟨o', rfl, hb'⟩, hk6⟩; obtain ⟨e1, e2, e3⟩ := HSame.out o' hb'; rw [e1, e2, e3, show fK H none = -1 from rfl, show bS H none = ⟨0, 0, 0, false, 0, false⟩ from rfl, show bT H none = ⟨0, 0, 0, false, 0, false⟩ from rfl]; clear e1 e2 e3 hb')
                go_ret
                exact ⟨rfl, ((HKR.out.trans hk6).alloc _).alloc _⟩
              | some c =>
                obtain rfl : fb = true := HR.out.1.1
                obtain ⟨cu, ci, cj⟩ := c
                obtain ⟨hr, hcf, -⟩ := HR.out.2.2.2 (cu, ci, cj) rfl
                rw [HH.out.2.2.2.2.1, HH.out.2.2.2.2.2] at hr
                dsimp only at hr hcf
                obtain ⟨⟨hit0, hit1⟩, hspn⟩ := HUOK.out cu hr.1 hr.2
                obtain ⟨hcf1, hcf2, hcf3, -⟩ := hcf
                rw [HH.out.2.1] at hcf1 hcf3
                obtain ⟨hsp1, hsp2⟩ := hspn (by omega)
                obtain ⟨kN, hkN⟩ := Int.eq_ofNat_of_zero_le hit0
                rw [hkN, Int.toNat_natCast] at hsp2
                obtain rfl : k1 = (kN : Int) := by rw [HR.out.1.2.1]; show (H.U cu).item = _; rw [HH.out.2.1, hkN]
                obtain rfl : i1 = (ci : Int) := HR.out.1.2.2.1
                obtain rfl : j1 = (cj : Int) := HR.out.1.2.2.2.1
                have hkn : kN < n := by omega
                obtain ⟨lk, hlk⟩ : ∃ l, L kN = l := ⟨_, rfl⟩
                have hci : ci < lk := by omega
                have hcj : cj < lk := by omega
                have hciI : (ci : Int) < (lk : Int) := by omega
                have hcjI : (cj : Int) < (lk : Int) := by omega
                have hknI : (kN : Int) < (n : Int) := by omega
                have hlb : lk ≤ 4096 := by rw [← hlk]; exact HLp.out kN hkn
                have HRw : Hid (H.row cu = X kN) := by show H.X (H.U cu).item.toNat = X kN; rw [HH.out.1, HH.out.2.1, hkN]; rfl
                obtain ⟨bl, ol, rfl, hcl⟩ := HX5.out.1 (by omega)
                obtain ⟨ak, hak⟩ : ∃ a, A' kN = a := ⟨_, rfl⟩
                obtain ⟨ck, hck⟩ : ∃ a, C' kN = a := ⟨_, rfl⟩
                obtain ⟨b2, o2, hb2, hcs⟩ := HX5.out.2 kN hkn (by omega)
                rw [hak] at hb2
                subst hb2
                obtain ⟨sI, hsI⟩ : ∃ s, X kN ci = s := ⟨_, rfl⟩
                obtain ⟨sJ, hsJ⟩ : ∃ s, X kN cj = s := ⟨_, rfl⟩
                have hI0 := hcs ci (by omega)
                have hJ0 := hcs cj (by omega)
                rw [hsI] at hI0
                rw [hsJ] at hJ0
                have HL5 : Hid (w5.cell? ⟨bl, ol + kN, none⟩ = some (.slice (some ⟨b2, o2, none⟩) lk ck)) := by show _ = _; rw [← hak, ← hlk, ← hck]; exact hcl kN hkn
                obtain ⟨pI, nI, vI, hI, aI, qI⟩ := sI
                obtain ⟨pJ, nJ, vJ, hJ, aJ, qJ⟩ := sJ
                have HFK : Hid (fK H (some (cu, ci, cj)) = (kN : Int) ∧ bS H (some (cu, ci, cj)) = ⟨pI, nI, vI, hI, aI, qI⟩ ∧ bT H (some (cu, ci, cj)) = ⟨pJ, nJ, vJ, hJ, aJ, qJ⟩) := ⟨by show (H.U cu).item = _; rw [HH.out.2.1, hkN], by show H.row cu ci = _; rw [HRw.out, hsI], by show H.row cu cj = _; rw [HRw.out, hsJ]⟩
                have HI0 : Hid _ := hI0
                have HJ0 : Hid _ := hJ0
                clear hI0 hJ0 hsI hsJ hcs hcl hak hck hlk hkN hit0 hit1 hspn hcf1 hcf2 hcf3 hr hsp1 hsp2 hci hcj hkn
                go_wp2_with (go_at_call 18; rw [← HH.out.2.2.2.1]; refine (HC18.out ()).mono ?_; rintro e w6 ⟨⟨o', rfl, hb'⟩, hk6⟩; obtain ⟨e1, e2, e3⟩ := HSame.out o' hb'; rw [e1, e2, e3, HFK.out.1, HFK.out.2.1, HFK.out.2.2]; clear e1 e2 e3 hb')
                have HW6 : Hid (Kept Nowhere wj w6) := hk6
                have HQ : Hid (∀ W, Kept Nowhere ((w6.alloc (.cells #[.int .i64 pI, .int .i64 nI, .int .i64 vI, .bool hI, .int .u8 aI, .bool qI] 45)).alloc (.cells #[.int .i64 pJ, .int .i64 nJ, .int .i64 vJ, .bool hJ, .int .u8 aJ, .bool qJ] 45)) W → BoxAt W w6.heap.size ⟨pI, nI, vI, hI, aI, qI⟩ ∧ BoxAt W (w6.heap.size + 1) ⟨pJ, nJ, vJ, hJ, aJ, qJ⟩ ∧ W.cell? ⟨bl, ol + kN, none⟩ = some (.slice (some ⟨b2, o2, none⟩) lk ck) ∧ StepAt W b2 (o2 + ci * 6) ⟨pI, nI, vI, hI, aI, qI⟩ ∧ StepAt W b2 (o2 + cj * 6) ⟨pJ, nJ, vJ, hJ, aJ, qJ⟩) := fun W kk => by
                  have kA := (((Kept.refl Nowhere w6).alloc (.cells #[.int .i64 pI, .int .i64 nI, .int .i64 vI, .bool hI, .int .u8 aI, .bool qI] 45)).alloc (.cells #[.int .i64 pJ, .int .i64 nJ, .int .i64 vJ, .bool hJ, .int .u8 aJ, .bool qJ] 45)).trans kk
                  have k5 := (HR.out.2.1.trans HW6.out).trans kA
                  refine ⟨BoxAt.kept (box_cells (Kept.refl Nowhere _)) (((Kept.refl Nowhere (w6.alloc (.cells #[.int .i64 pI, .int .i64 nI, .int .i64 vI, .bool hI, .int .u8 aI, .bool qI] 45))).alloc (.cells #[.int .i64 pJ, .int .i64 nJ, .int .i64 vJ, .bool hJ, .int .u8 aJ, .bool qJ] 45)).trans kk), ?_, k5.nothing_cell (fun _ h => h) HL5.out, StepAt.kept HI0.out k5, StepAt.kept HJ0.out k5⟩
                  have bb := box_cells (Kept.refl Nowhere ((w6.alloc (.cells #[.int .i64 pI, .int .i64 nI, .int .i64 vI, .bool hI, .int .u8 aI, .bool qI] 45)).alloc (.cells #[.int .i64 pJ, .int .i64 nJ, .int .i64 vJ, .bool hJ, .int .u8 aJ, .bool qJ] 45)))
                  rw [Deep.nblk_alloc] at bb
                  exact BoxAt.kept bb kk
                have d0 := fun q : KW ((w6.alloc (.cells #[.int .i64 pI, .int .i64 nI, .int .i64 vI, .bool hI, .int .u8 aI, .bool qI] 45)).alloc (.cells #[.int .i64 pJ, .int .i64 nJ, .int .i64 vJ, .bool hJ, .int .u8 aJ, .bool qJ] 45)) => (HQ.out q.val q.kept).1.1
                have d1 := fun q : KW ((w6.alloc (.cells #[.int .i64 pI, .int .i64 nI, .int .i64 vI, .bool hI, .int .u8 aI, .bool qI] 45)).alloc (.cells #[.int .i64 pJ, .int .i64 nJ, .int .i64 vJ, .bool hJ, .int .u8 aJ, .bool qJ] 45)) => (HQ.out q.val q.kept).1.2.1
                have d2 := fun q : KW ((w6.alloc (.cells #[.int .i64 pI, .int .i64 nI, .int .i64 vI, .bool hI, .int .u8 aI, .bool qI] 45)).alloc (.cells #[.int .i64 pJ, .int .i64 nJ, .int .i64 vJ, .bool hJ, .int .u8 aJ, .bool qJ] 45)) => (HQ.out q.val q.kept).1.2.2.1
                have d3 := fun q : KW ((w6.alloc (.cells #[.int .i64 pI, .int .i64 nI, .int .i64 vI, .bool hI, .int .u8 aI, .bool qI] 45)).alloc (.cells #[.int .i64 pJ, .int .i64 nJ, .int .i64 vJ, .bool hJ, .int .u8 aJ, .bool qJ] 45)) => (HQ.out q.val q.kept).1.2.2.2.1
                have d4 := fun q : KW ((w6.alloc (.cells #[.int .i64 pI, .int .i64 nI, .int .i64 vI, .bool hI, .int .u8 aI, .bool qI] 45)).alloc (.cells #[.int .i64 pJ, .int .i64 nJ, .int .i64 vJ, .bool hJ, .int .u8 aJ, .bool qJ] 45)) => (HQ.out q.val q.kept).1.2.2.2.2.1
                have d5 := fun q : KW ((w6.alloc (.cells #[.int .i64 pI, .int .i64 nI, .int .i64 vI, .bool hI, .int .u8 aI, .bool qI] 45)).alloc (.cells #[.int .i64 pJ, .int .i64 nJ, .int .i64 vJ, .bool hJ, .int .u8 aJ, .bool qJ] 45)) => (HQ.out q.val q.kept).1.2.2.2.2.2
                have e0 := fun q : KW ((w6.alloc (.cells #[.int .i64 pI, .int .i64 nI, .int .i64 vI, .bool hI, .int .u8 aI, .bool qI] 45)).alloc (.cells #[.int .i64 pJ, .int .i64 nJ, .int .i64 vJ, .bool hJ, .int .u8 aJ, .bool qJ] 45)) => (HQ.out q.val q.kept).2.1.1
                have e1 := fun q : KW ((w6.alloc (.cells #[.int .i64 pI, .int .i64 nI, .int .i64 vI, .bool hI, .int .u8 aI, .bool qI] 45)).alloc (.cells #[.int .i64 pJ, .int .i64 nJ, .int .i64 vJ, .bool hJ, .int .u8 aJ, .bool qJ] 45)) => (HQ.out q.val q.kept).2.1.2.1
                have e2 := fun q : KW ((w6.alloc (.cells #[.int .i64 pI, .int .i64 nI, .int .i64 vI, .bool hI, .int .u8 aI, .bool qI] 45)).alloc (.cells #[.int .i64 pJ, .int .i64 nJ, .int .i64 vJ, .bool hJ, .int .u8 aJ, .bool qJ] 45)) => (HQ.out q.val q.kept).2.1.2.2.1
                have e3 := fun q : KW ((w6.alloc (.cells #[.int .i64 pI, .int .i64 nI, .int .i64 vI, .bool hI, .int .u8 aI, .bool qI] 45)).alloc (.cells #[.int .i64 pJ, .int .i64 nJ, .int .i64 vJ, .bool hJ, .int .u8 aJ, .bool qJ] 45)) => (HQ.out q.val q.kept).2.1.2.2.2.1
                have e4 := fun q : KW ((w6.alloc (.cells #[.int .i64 pI, .int .i64 nI, .int .i64 vI, .bool hI, .int .u8 aI, .bool qI] 45)).alloc (.cells #[.int .i64 pJ, .int .i64 nJ, .int .i64 vJ, .bool hJ, .int .u8 aJ, .bool qJ] 45)) => (HQ.out q.val q.kept).2.1.2.2.2.2.1
                have e5 := fun q : KW ((w6.alloc (.cells #[.int .i64 pI, .int .i64 nI, .int .i64 vI, .bool hI, .int .u8 aI, .bool qI] 45)).alloc (.cells #[.int .i64 pJ, .int .i64 nJ, .int .i64 vJ, .bool hJ, .int .u8 aJ, .bool qJ] 45)) => (HQ.out q.val q.kept).2.1.2.2.2.2.2
                have f0 := fun q : KW ((w6.alloc (.cells #[.int .i64 pI, .int .i64 nI, .int .i64 vI, .bool hI, .int .u8 aI, .bool qI] 45)).alloc (.cells #[.int .i64 pJ, .int .i64 nJ, .int .i64 vJ, .bool hJ, .int .u8 aJ, .bool qJ] 45)) => (HQ.out q.val q.kept).2.2.2.1.1
                have f1 := fun q : KW ((w6.alloc (.cells #[.int .i64 pI, .int .i64 nI, .int .i64 vI, .bool hI, .int .u8 aI, .bool qI] 45)).alloc (.cells #[.int .i64 pJ, .int .i64 nJ, .int .i64 vJ, .bool hJ, .int .u8 aJ, .bool qJ] 45)) => (HQ.out q.val q.kept).2.2.2.1.2.1
                have f2 := fun q : KW ((w6.alloc (.cells #[.int .i64 pI, .int .i64 nI, .int .i64 vI, .bool hI, .int .u8 aI, .bool qI] 45)).alloc (.cells #[.int .i64 pJ, .int .i64 nJ, .int .i64 vJ, .bool hJ, .int .u8 aJ, .bool qJ] 45)) => (HQ.out q.val q.kept).2.2.2.1.2.2.1
                have f3 := fun q : KW ((w6.alloc (.cells #[.int .i64 pI, .int .i64 nI, .int .i64 vI, .bool hI, .int .u8 aI, .bool qI] 45)).alloc (.cells #[.int .i64 pJ, .int .i64 nJ, .int .i64 vJ, .bool hJ, .int .u8 aJ, .bool qJ] 45)) => (HQ.out q.val q.kept).2.2.2.1.2.2.2.1
                have f4 := fun q : KW ((w6.alloc (.cells #[.int .i64 pI, .int .i64 nI, .int .i64 vI, .bool hI, .int .u8 aI, .bool qI] 45)).alloc (.cells #[.int .i64 pJ, .int .i64 nJ, .int .i64 vJ, .bool hJ, .int .u8 aJ, .bool qJ] 45)) => (HQ.out q.val q.kept).2.2.2.1.2.2.2.2.1
                have f5 := fun q : KW ((w6.alloc (.cells #[.int .i64 pI, .int .i64 nI, .int .i64 vI, .bool hI, .int .u8 aI, .bool qI] 45)).alloc (.cells #[.int .i64 pJ, .int .i64 nJ, .int .i64 vJ, .bool hJ, .int .u8 aJ, .bool qJ] 45)) => (HQ.out q.val q.kept).2.2.2.1.2.2.2.2.2
                have g0 := fun q : KW ((w6.alloc (.cells #[.int .i64 pI, .int .i64 nI, .int .i64 vI, .bool hI, .int .u8 aI, .bool qI] 45)).alloc (.cells #[.int .i64 pJ, .int .i64 nJ, .int .i64 vJ, .bool hJ, .int .u8 aJ, .bool qJ] 45)) => (HQ.out q.val q.kept).2.2.2.2.1
                have g1 := fun q : KW ((w6.alloc (.cells #[.int .i64 pI, .int .i64 nI, .int .i64 vI, .bool hI, .int .u8 aI, .bool qI] 45)).alloc (.cells #[.int .i64 pJ, .int .i64 nJ, .int .i64 vJ, .bool hJ, .int .u8 aJ, .bool qJ] 45)) => (HQ.out q.val q.kept).2.2.2.2.2.1
                have g2 := fun q : KW ((w6.alloc (.cells #[.int .i64 pI, .int .i64 nI, .int .i64 vI, .bool hI, .int .u8 aI, .bool qI] 45)).alloc (.cells #[.int .i64 pJ, .int .i64 nJ, .int .i64 vJ, .bool hJ, .int .u8 aJ, .bool qJ] 45)) => (HQ.out q.val q.kept).2.2.2.2.2.2.1
                have g3 := fun q : KW ((w6.alloc (.cells #[.int .i64 pI, .int .i64 nI, .int .i64 vI, .bool hI, .int .u8 aI, .bool qI] 45)).alloc (.cells #[.int .i64 pJ, .int .i64 nJ, .int .i64 vJ, .bool hJ, .int .u8 aJ, .bool qJ] 45)) => (HQ.out q.val q.kept).2.2.2.2.2.2.2.1
                have g4 := fun q : KW ((w6.alloc (.cells #[.int .i64 pI, .int .i64 nI, .int .i64 vI, .bool hI, .int .u8 aI, .bool qI] 45)).alloc (.cells #[.int .i64 pJ, .int .i64 nJ, .int .i64 vJ, .bool hJ, .int .u8 aJ, .bool qJ] 45)) => (HQ.out q.val q.kept).2.2.2.2.2.2.2.2.1
                have g5 := fun q : KW ((w6.alloc (.cells #[.int .i64 pI, .int .i64 nI, .int .i64 vI, .bool hI, .int .u8 aI, .bool qI] 45)).alloc (.cells #[.int .i64 pJ, .int .i64 nJ, .int .i64 vJ, .bool hJ, .int .u8 aJ, .bool qJ] 45)) => (HQ.out q.val q.kept).2.2.2.2.2.2.2.2.2
                have l0 := fun q : KW ((w6.alloc (.cells #[.int .i64 pI, .int .i64 nI, .int .i64 vI, .bool hI, .int .u8 aI, .bool qI] 45)).alloc (.cells #[.int .i64 pJ, .int .i64 nJ, .int .i64 vJ, .bool hJ, .int .u8 aJ, .bool qJ] 45)) => (HQ.out q.val q.kept).2.2.1
                clear hk6
                have iK := KW.some ((w6.alloc (.cells #[.int .i64 pI, .int .i64 nI, .int .i64 vI, .bool hI, .int .u8 aI, .bool qI] 45)).alloc (.cells #[.int .i64 pJ, .int .i64 nJ, .int .i64 vJ, .bool hJ, .int .u8 aJ, .bool qJ] 45))
                refine wp_region_kept_lit (by kernel_rfl) (by kernel_rfl) ?_
                repeat (go_big_quiet_step (first | (go_at_call_of 19 pI; exact Calls.kept_of (same19 ⟨pI, nI, vI, hI, aI, qI⟩ _)) | (go_at_call_of 19 pJ; exact Calls.kept_of (same19 ⟨pJ, nJ, vJ, hJ, aJ, qJ⟩ _))))
                refine wpQuiet_nil ?_
                intro W7 hW7
                obtain ⟨q7, hq7⟩ := hW7
                have HW7 : Hid (Kept Nowhere ((w6.alloc (.cells #[.int .i64 pI, .int .i64 nI, .int .i64 vI, .bool hI, .int .u8 aI, .bool qI] 45)).alloc (.cells #[.int .i64 pJ, .int .i64 nJ, .int .i64 vJ, .bool hJ, .int .u8 aJ, .bool qJ] 45)) W7) := by rw [hq7]; exact q7.kept
                clear hq7 d0 d1 d2 d3 d4 d5 e0 e1 e2 e3 e4 e5 f0 f1 f2 f3 f4 f5 g0 g1 g2 g3 g4 g5 l0
                go_wp2
                go_ret
                exact ⟨rfl, (((HKR.out.trans HW6.out).alloc _).alloc _).trans HW7.out⟩

end Go.Proofs.Qxb6604039a
