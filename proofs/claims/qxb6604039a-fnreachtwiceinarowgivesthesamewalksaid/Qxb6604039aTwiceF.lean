import Derived.Test.Qxb6604039aLawCall
import Derived.WalkSmall
namespace Go.Proofs.Qxb6604039a
open Go.RowKit

set_option maxRecDepth 100000 in
set_option maxHeartbeats 2000000 in
theorem twice_fwd (sa pa oa ma qa fa ba : Option Addr) (sn sk pn pk n ok mn mk qn qk fn fk bn bk : Nat) (stamp start e bound : Int) (A : Nat → Option Addr) (L C : Nat → Nat) (X : Nat → Nat → Int) (A' : Nat → Option Addr) (L' C' : Nat → Nat) (X' : Nat → Nat → Int) (O M P Fw Bk : Nat → Int) (w : World)
    (hs : GraphAt w sa sn A L C X) (hp : GraphAt w pa pn A' L' C' X') (ho : IntsAt w oa n O) (hm : IntsAt w ma mn M) (hq : IntsAt w qa qn P) (hfw : IntsAt w fa fn Fw) (hbk : IntsAt w ba bn Bk) (hst : -9223372036854775808 ≤ stamp) (g0 : (sn : Int) ≤ 65536) (g1 : (pn : Int) ≤ 65536) (g2 : (n : Int) ≤ 131072) (g3 : (mn : Int) ≤ 131072) (g4 : (qn : Int) ≤ 131072) (g5 : (fn : Int) ≤ 131072) (g6 : (bn : Int) ≤ 131072) (g7 : 8 * ((n : Int) + mn + qn + fn + bn) ≤ 1048576) :
    Calls Try.prog 6 #[.slice sa sn sk, .slice pa pn pk, .slice oa n ok, .int .i64 stamp, .slice ma mn mk, .slice qa qn qk, .slice fa fn fk, .slice ba bn bk, .int .i64 start, .int .i64 e, .int .i64 bound, .bool true] w fun e w' => e = .returned (.bool true) ∧ Below w.heap.size w w' := by
  have HS : Hid (GraphAt w sa sn A L C X ∧ GraphAt w pa pn A' L' C' X' ∧ IntsAt w oa n O ∧ IntsAt w ma mn M ∧ IntsAt w qa qn P ∧ IntsAt w fa fn Fw ∧ IntsAt w ba bn Bk) := ⟨hs, hp, ho, hm, hq, hfw, hbk⟩
  have HB : Hid (Calls Try.prog 26 #[.slice sa sn sk, .slice pa pn pk, .slice oa n ok, .int .i64 stamp, .slice ma mn mk, .slice qa qn qk, .slice fa fn fk, .slice ba bn bk, .int .i64 start, .int .i64 e, .int .i64 bound, .bool true] w fun e w' => Answers (fun _ => True) e ∧ w' = w) := bytes26 sa pa oa ma qa fa ba sn sk pn pk n ok mn mk qn qk fn fk bn bk stamp start e bound true A L C X A' L' C' X' w hs hp
  clear hs hp ho hm hq hfw hbk
  have d0 : decide (65536 < (sn : Int)) = false := decide_eq_false (by omega)
  have d1 : decide (65536 < (pn : Int)) = false := decide_eq_false (by omega)
  have d2 : decide (131072 < (n : Int)) = false := decide_eq_false (by omega)
  have d3 : decide (131072 < (mn : Int)) = false := decide_eq_false (by omega)
  have d4 : decide (131072 < (qn : Int)) = false := decide_eq_false (by omega)
  have d5 : decide (131072 < (fn : Int)) = false := decide_eq_false (by omega)
  have d6 : decide (131072 < (bn : Int)) = false := decide_eq_false (by omega)
  go_enter Try.func6, Try.ntmps6
  go_wp2_with (go_at_call 26; refine HB.out.mono ?_; rintro e w1 ⟨⟨r, rfl, -⟩, rfl⟩; cases r)
  · go_ret
    exact ⟨rfl, Below.refl _ _⟩
  clear HB d0 d1 d2 d3 d4 d5 d6
  go_loopg [25, 26] sn (fun gk t i wr => ∃ (j : Nat) (z : Int), j + gk = sn ∧ i = .int .i64 j ∧ t = .int .i64 z ∧ 0 ≤ z ∧ z ≤ 1048576 ∧ wr = w1 ∧ Hid (∀ i, i < j → L i ≤ 131072))
  case atStart => exact ⟨0, _, by omega, rfl, rfl, by omega, by omega, rfl, fun i hi => by omega⟩
  case round =>
    obtain ⟨j, z, hjk, rfl, rfl, hz0, hz1, rfl, HL⟩ := hrel
    by_cases hj : j < sn
    · obtain ⟨b, o, rfl, hc⟩ := HS.out.1.1 (by omega)
      have hc' := hc j hj
      have hjI : (j : Int) < (sn : Int) := by omega
      obtain ⟨a, ha⟩ : ∃ a, A j = a := ⟨_, rfl⟩
      obtain ⟨l, hl⟩ : ∃ l, L j = l := ⟨_, rfl⟩
      obtain ⟨k, hk⟩ : ∃ k, C j = k := ⟨_, rfl⟩
      rw [ha, hl, hk] at hc'
      have HLl : Hid (L j = l) := hl
      clear ha hl hk hc
      obtain ⟨q, rfl⟩ : ∃ q, gk = q + 1 := ⟨gk - 1, by omega⟩
      by_cases hl : (l : Int) ≤ 131072
      · by_cases hz : z + (24 + 8 * (l : Int)) ≤ 1048576
        · go_wp2
          go_roundg q
          case measure => omega
          case rel =>
            refine ⟨j + 1, z + (24 + 8 * (l : Int)), by omega, by go_num, rfl, by omega, by omega, rfl, fun i hi => ?_⟩
            by_cases ei : i = j
            · subst ei; rw [HLl.out]; omega
            · exact HL.out i (by omega)
        · go_wp2
          go_ret
          exact ⟨rfl, Below.refl _ _⟩
      · go_wp2
        go_ret
        exact ⟨rfl, Below.refl _ _⟩
    · have HLs : Hid (∀ i, i < sn → L i ≤ 131072) := fun i hi => HL.out i (by omega)
      clear HL
      go_wp2
      go_loopg [25, 27] pn (fun gk t i wi => ∃ (j : Nat) (z : Int), j + gk = pn ∧ i = .int .i64 j ∧ t = .int .i64 z ∧ 0 ≤ z ∧ z ≤ 1048576 ∧ wi = wr ∧ Hid (∀ i, i < j → L' i ≤ 131072))
      case atStart => exact ⟨0, _, by omega, rfl, rfl, hz0, hz1, rfl, fun i hi => by omega⟩
      case round =>
        obtain ⟨t, y, htk, rfl, rfl, hy0, hy1, rfl, HL⟩ := hrel
        by_cases ht : t < pn
        · obtain ⟨b, o, rfl, hc⟩ := HS.out.2.1.1 (by omega)
          have hc' := hc t ht
          have htI : (t : Int) < (pn : Int) := by omega
          obtain ⟨a, ha⟩ : ∃ a, A' t = a := ⟨_, rfl⟩
          obtain ⟨l, hl⟩ : ∃ l, L' t = l := ⟨_, rfl⟩
          obtain ⟨k, hk⟩ : ∃ k, C' t = k := ⟨_, rfl⟩
          rw [ha, hl, hk] at hc'
          have HLl : Hid (L' t = l) := hl
          clear ha hl hk hc
          obtain ⟨q, rfl⟩ : ∃ q, gk = q + 1 := ⟨gk - 1, by omega⟩
          by_cases hl : (l : Int) ≤ 131072
          · by_cases hz : y + (24 + 8 * (l : Int)) ≤ 1048576
            · go_wp2
              go_roundg q
              case measure => omega
              case rel =>
                refine ⟨t + 1, y + (24 + 8 * (l : Int)), by omega, by go_num, rfl, by omega, by omega, rfl, fun i hi => ?_⟩
                by_cases ei : i = t
                · subst ei; rw [HLl.out]; omega
                · exact HL.out i (by omega)
            · go_wp2
              go_ret
              exact ⟨rfl, Below.refl _ _⟩
          · go_wp2
            go_ret
            exact ⟨rfl, Below.refl _ _⟩
        · have HLp : Hid (∀ i, i < pn → L' i ≤ 131072) := fun i hi => HL.out i (by omega)
          have HD := domain_fwd sa pa oa ma qa sn sk pn pk n ok mn mk qn qk stamp start M A L C X wr HS.out.1 HS.out.2.2.2.1 (by omega) (fun i hi => by have := HLs.out i hi; omega)
          have HDm : Hid (Calls Try.prog 21 _ wr _) := HD
          clear HL HD
          by_cases hmx : stamp < 9223372036854775806
          · go_wp2_with (go_at_call 21; refine HDm.out.mono ?_; rintro e w0 ⟨⟨r, rfl, hdom⟩, rfl⟩; cases r)
            · go_ret
              exact ⟨rfl, Below.refl _ _⟩
            obtain ⟨e1, e2, e3, e4, h01, h02, hM, hX⟩ := hdom (by first | rfl | trivial)
            clear hjk htk hdom
            subst sn pn mn qn
            obtain ⟨st, rfl⟩ : ∃ st : Nat, start = st := ⟨start.toNat, by omega⟩
            have hn1 : n ≠ 0 := by omega
            obtain ⟨b1, o1, rfl, -⟩ := HS.out.1.1 hn1
            obtain ⟨b2, o2, rfl, -⟩ := HS.out.2.1.1 hn1
            have oa0 := HS.out.2.2.1.some hn1
            have ma0 := HS.out.2.2.2.1.some hn1
            have qa0 := HS.out.2.2.2.2.1.some hn1
            have fa0 : fa = none → fn = 0 := fun h => Classical.byContradiction fun h2 => HS.out.2.2.2.2.2.1.some h2 h
            have ba0 : ba = none → bn = 0 := fun h => Classical.byContradiction fun h2 => HS.out.2.2.2.2.2.2.some h2 h
            have HX : Hid ((∀ i, i < n → M i ≤ stamp) ∧ ∀ i, i < n → ∀ j, j < L i → 0 ≤ X i j ∧ X i j < n) := ⟨hM, hX⟩
            have HA : Hid (oa ≠ none ∧ ma ≠ none ∧ qa ≠ none ∧ (fa = none → fn = 0) ∧ (ba = none → bn = 0)) := ⟨oa0, ma0, qa0, fa0, ba0⟩
            clear hM hX oa0 ma0 qa0 fa0 ba0 HDm
            refine (cloneGraph b1 o1 sk n A L C X _ HS.out.1 (by omega) (fun i hi => by have := HLs.out i hi; omega)).mono ?_
            rintro e1 w1 ⟨rfl, K1, R, h1, r1⟩
            go_wp2_with fail
            refine (cloneGraph b2 o2 pk n A' L' C' X' _ (HS.out.2.1.kept K1) (by omega) (fun i hi => by have := HLp.out i hi; omega)).mono ?_
            rintro e1 w2 ⟨rfl, K2, R', h2, r2⟩
            go_wp2_with fail
            refine (cloneInts oa ok n O _ ((HS.out.2.2.1.kept K1).kept K2) (by omega)).mono ?_
            rintro e1 w3 ⟨v3, rfl, C3⟩
            obtain ⟨g3, hg3, rfl, R3⟩ := C3.block HA.out.1
            have K3 := C3.1
            have K03 := (K1.trans K2).trans K3
            have HRZ := laid_rz (fwd := true) (O := O) (st := st) (e := e) (bound := bound) h1 r1 K2 h2 r2 K3 R3 (by omega) (fun i hi => by have := HLs.out i hi; omega) (fun i hi => by have := HLp.out i hi; omega) (fun i hi j hj => HX.out.2 i hi j hj)
            obtain ⟨c, hc⟩ : ∃ c, c = ctxOf true n (fun i => if true = true then L i else L' i) (fun i j => if true = true then X i j else X' i j) O st e bound := ⟨_, rfl⟩
            rw [← hc] at HRZ
            have HC : Hid (c = ctxOf true n (fun i => if true = true then L i else L' i) (fun i j => if true = true then X i j else X' i j) O st e bound ∧ c.n = n ∧ c.start = st ∧ c.e = e ∧ c.bound = bound ∧ c.fwd = true) := ⟨hc, by rw [hc]; rfl, by rw [hc]; rfl, by rw [hc]; rfl, by rw [hc]; rfl, by rw [hc]; rfl⟩
            have HZ : Hid (RZ c (fun k => w3.heap.size ≤ k) _ _ _ _ _ _ _ _ _ w3) := HRZ
            clear hc HRZ h1 r1 h2 r2 R3 C3
            go_wp2_with fail
            refine (cloneInts ma mk n M _ (HS.out.2.2.2.1.kept K03) (by omega)).mono ?_
            rintro e1 w4 ⟨v4, rfl, C4⟩
            obtain ⟨g4, hg4, rfl, R4⟩ := C4.block HA.out.2.1
            have K4 := C4.1
            have K04 := K03.trans K4
            clear C4
            go_wp2_with fail
            refine (cloneInts qa qk n P _ (HS.out.2.2.2.2.1.kept K04) (by omega)).mono ?_
            rintro e1 w5 ⟨v5, rfl, C5⟩
            obtain ⟨g5, hg5, rfl, R5⟩ := C5.block HA.out.2.2.1
            have K5 := C5.1
            have K05 := K04.trans K5
            clear C5
            go_wp2_with fail
            refine (cloneInts fa fk fn Fw _ (HS.out.2.2.2.2.2.1.kept K05) (by omega)).mono ?_
            rintro e1 w6 ⟨v6, rfl, C6⟩
            obtain ⟨a6, k6, rfl, ⟨x6, O6⟩, N6, I6, T6⟩ := C6.owns HA.out.2.2.2.1 (by omega)
            have K6 := C6.1
            have K06 := K05.trans K6
            clear C6
            go_wp2_with fail
            refine (cloneInts ba bk bn Bk _ (HS.out.2.2.2.2.2.2.kept K06) (by omega)).mono ?_
            rintro e1 w7 ⟨v7, rfl, C7⟩
            obtain ⟨a7, k7, rfl, ⟨x7, O7⟩, N7, I7, T7⟩ := C7.owns HA.out.2.2.2.2 (by omega)
            have K7 := C7.1
            have K07 := K06.trans K7
            clear C7
            obtain ⟨okb, hokb⟩ : ∃ b, (fin c).ok = b := ⟨_, rfl⟩
            obtain ⟨Fl, hFl⟩ : ∃ b, (fin c).F.length = b := ⟨_, rfl⟩
            have HO : Hid ((fin c).ok = okb ∧ (fin c).F.length = Fl) := ⟨hokb, hFl⟩
            have hFp : 0 < Fl := by rw [← hFl]; exact fin_F c (by rw [HC.out.2.1, HC.out.2.2.1]; omega)
            have hFn : Fl ≤ n := by rw [← hFl, ← HC.out.2.1]; exact fin_len c HZ.out.lt (by rw [HC.out.2.1, HC.out.2.2.1]; omega)
            clear hokb hFl
            go_wp2_with fail
            refine (call1_fwd HC.out.2.1 HC.out.2.2.1 HC.out.2.2.2.1 HC.out.2.2.2.2.1 HC.out.2.2.2.2.2 HO.out HZ.out K4 K5 K6 K7 hg4 R4 hg5 R5 O6 N6 HX.out.1 (by omega) hst (by omega)).mono ?_
            rintro e1 w8 ⟨a8, k8, rfl, A1⟩
            go_wp2_with fail
            refine (cloneInts a8 k8 Fl (fun i => ((fin c).F.getD i 0 : Nat)) _ (owns_ints A1.fo) (by omega)).mono ?_
            rintro e1 w9 ⟨v9, rfl, C9⟩
            obtain ⟨g9, hg9, rfl, R9⟩ := C9.block ((owns_ints A1.fo).some (by omega))
            have K9 := C9.1
            clear C9
            go_wp2_with fail
            refine (cloneInts (some ⟨g5, 0, none⟩) n n (parOf P (fin c).ws) _ (row_ints (K9.row A1.pr (fun h => h))) (by omega)).mono ?_
            rintro e1 w10 ⟨v10, rfl, C10⟩
            obtain ⟨g10, hg10, rfl, R10⟩ := C10.block (by simp)
            have K10 := C10.1
            clear C10
            go_wp2_with fail
            refine (cloneInts (some ⟨g4, 0, none⟩) n n (markOf (stamp + 1) M (fin c).V) _ (row_ints ((K9.trans K10).row A1.mr (fun h => h))) (by omega)).mono ?_
            rintro e1 w11 ⟨v11, rfl, C11⟩
            obtain ⟨g11, hg11, rfl, R11⟩ := C11.block (by simp)
            have K11 := C11.1
            clear C11
            have K811 := (K9.trans K10).trans K11
            have hsz8 := A1.kept.size
            have z4 := K4.size
            have z5 := K5.size
            have z6 := K6.size
            have z7 := K7.size
            have z9 := K9.size
            have z10 := K10.size
            have l4 := R4.lt
            have l5 := R5.lt
            have l9 := R9.lt
            have l10 := R10.lt
            have l11 := R11.lt
            have hS1 : ∀ k, (k = g4 ∨ k = g5 ∨ (Value.slice a6 fn k6).ownBlock = some k) → w3.heap.size ≤ k := by
              intro k hk
              rcases hk with rfl | rfl | hk
              · exact hg4
              · omega
              · have := N6 k hk; omega
            have HS1 : Hid (∀ k, (k = g4 ∨ k = g5 ∨ (Value.slice a6 fn k6).ownBlock = some k) → w3.heap.size ≤ k) := hS1
            clear hS1
            go_wp2_with fail
            refine (call2_fwd HC.out.2.1 HC.out.2.2.1 HC.out.2.2.2.1 HC.out.2.2.2.2.1 HC.out.2.2.2.2.2 HO.out HZ.out (((K4.trans K5).trans K6).trans K7) HS1.out A1 K811 hg4 (by omega) (by omega) HX.out.1 (by omega) hst hmx).mono ?_
            rintro e1 w12 ⟨a12, k12, rfl, A2⟩
            have S2 : ∀ k, (k = g4 ∨ k = g5 ∨ (Value.slice a8 Fl k8).ownBlock = some k) → k < w8.heap.size := by
              intro k hk
              rcases hk with rfl | rfl | hk
              · omega
              · omega
              · exact (A1.fo.lt k hk).2
            have T9 : w12.rowIs g9 3 Fl _ := A2.kept.row ((K10.trans K11).row R9 (fun h => h)) (fun h => by have := S2 g9 h; omega)
            have T10 : w12.rowIs g10 3 n _ := A2.kept.row (K11.row R10 (fun h => h)) (fun h => by have := S2 g10 h; omega)
            have T11 : w12.rowIs g11 3 n _ := A2.kept.row R11 (fun h => by have := S2 g11 h; omega)
            have KB : Below w0.heap.size w0 w12 := by
              have k1 : Kept (fun k => w0.heap.size ≤ k) w0 w7 := K07.mono (fun _ _ h => h.elim)
              have s3 := K03.size
              have k2 : Kept (fun k => w0.heap.size ≤ k) w7 w8 := A1.kept.mono (fun k _ h => by have := HS1.out k h; omega)
              have k3 : Kept (fun k => w0.heap.size ≤ k) w8 w11 := K811.mono (fun _ _ h => h.elim)
              have k4 : Kept (fun k => w0.heap.size ≤ k) w11 w12 := A2.kept.mono (fun k _ h => by
                rcases h with h | h | h
                · omega
                · omega
                · rcases A1.fvS k h with h | h
                  · have := HS1.out k h; omega
                  · omega)
              exact (((k1.trans k2).trans k3).trans k4).below (Nat.le_refl _) (fun _ _ h => h)
            have HQ : Hid (Below w0.heap.size w0 w12) := KB
            have HT9 : Hid (IntsAt w12 a12 Fl (fun i => ((fin c).F.getD i 0 : Nat)) ∧ IntsAt w12 (some ⟨g9, 0, none⟩) Fl (fun i => ((fin c).F.getD i 0 : Nat))) := ⟨owns_ints A2.fo, row_ints T9⟩
            have HT10 : Hid (IntsAt w12 (some ⟨g5, 0, none⟩) n (parOf (parOf P (fin c).ws) (fin c).ws) ∧ IntsAt w12 (some ⟨g10, 0, none⟩) n (parOf P (fin c).ws)) := ⟨row_ints A2.pr, row_ints T10⟩
            have HT11 : Hid (w12.rowIs g4 3 n (fun i => .int .i64 (markOf (stamp + 1 + 1) (markOf (stamp + 1) M (fin c).V) (fin c).V i)) ∧ w12.rowIs g11 3 n (fun i => .int .i64 (markOf (stamp + 1) M (fin c).V i))) := ⟨A2.mr, T11⟩
            clear K1 K2 K3 K03 K4 K04 K5 K05 K6 K06 K7 K07 K9 K10 K11 K811 R4 R5 R9 R10 R11 O6 N6 I6 T6 O7 N7 I7 T7 A1 A2 T9 T10 T11 KB S2 hsz8 z4 z5 z6 z7 z9 z10 l4 l5 l9 l10 l11 hg3 hg4 hg5 hg9 hg10 hg11 HS1 HZ HLs HLp HS HA
            have N12 : a12.isNone = false := by
              have := HT9.out.1.some (by omega)
              cases a12 with
              | none => exact absurd rfl this
              | some _ => rfl
            have HN12 : Hid (a12.isNone = false) := N12
            clear N12
            go_wp2_with fail
            refine (sameInts a12 (some ⟨g9, 0, none⟩) Fl k12 Fl _ _ _ (by rw [HN12.out]; rfl) HT9.out.1 HT9.out.2 (fun i _ => rfl) (by omega)).mono ?_
            rintro e1 w13 ⟨rfl, q1, rfl⟩
            go_wp2_with fail
            refine (sameInts (some ⟨g5, 0, none⟩) (some ⟨g10, 0, none⟩) n n n (parOf (parOf P (fin c).ws) (fin c).ws) (parOf P (fin c).ws) (w12.drewN q1) rfl HT10.out.1 HT10.out.2 (fun i _ => by rw [parOf_twice]) (by omega)).mono ?_
            rintro e1 w14 ⟨rfl, q2, rfl⟩
            go_wp2_with fail
            go_loopg [46] n (fun gk i wi => ∃ j q : Nat, j + gk = n ∧ i = .int .i64 j ∧ wi = w12.drewN q)
            case atStart => exact ⟨0, _, by omega, rfl, rfl⟩
            case round =>
              obtain ⟨u, q, huk, rfl, rfl⟩ := hrel
              by_cases hu : u < n
              · have huI : (u : Int) < (n : Int) := by omega
                have hmt := mark_twice (now := stamp + 1) (M := M) (V := (fin c).V) u (by have := HX.out.1 u hu; omega)
                have c4 := HT11.out.1.cell hu
                have c11 := HT11.out.2.cell hu
                obtain ⟨m2, hm2⟩ : ∃ z, markOf (stamp + 1 + 1) (markOf (stamp + 1) M (fin c).V) (fin c).V u = z := ⟨_, rfl⟩
                obtain ⟨m1, hm1⟩ : ∃ z, markOf (stamp + 1) M (fin c).V u = z := ⟨_, rfl⟩
                rw [hm2, hm1] at hmt
                rw [hm2] at c4
                rw [hm1] at c11
                clear hm1 hm2
                obtain ⟨t1, t2⟩ := hmt
                obtain ⟨q2, rfl⟩ : ∃ q, gk = q + 1 := ⟨gk - 1, by omega⟩
                by_cases hm : m2 = stamp + 1 + 1
                · have b1 : (m2 == stamp + 1 + 1) = true := by simp [hm]
                  have b2 : (m1 == stamp + 1) = true := by rw [b1] at t1; simpa using t1
                  have b3 : (m2 != stamp + 1 + 1) = false := by simp [hm]
                  clear hm t1 t2
                  go_wp2
                  go_quiet (fail)
                  go_wp2
                  go_quiet (fail)
                  go_wp2
                  go_roundg q2
                  case measure => omega
                  case rel => exact ⟨u + 1, _, by omega, by go_num, rfl⟩
                · have b1 : (m2 == stamp + 1 + 1) = false := by simpa using hm
                  have b2 : (m1 == stamp + 1) = false := by rw [b1] at t1; simpa using t1
                  have b3 : (m2 != stamp + 1 + 1) = true := by simpa using hm
                  obtain rfl : m2 = m1 := by rcases t2 with h | h; exact absurd h hm; exact h
                  clear hm t1 t2
                  go_wp2
                  go_quiet (fail)
                  go_wp2
                  go_quiet (fail)
                  go_wp2
                  go_roundg q2
                  case measure => omega
                  case rel => exact ⟨u + 1, _, by omega, by go_num, rfl⟩
              · go_wp2
                go_ret
                exact ⟨rfl, below_drewN HQ.out _⟩
          · go_wp2
            go_ret
            exact ⟨rfl, Below.refl _ _⟩

end Go.Proofs.Qxb6604039a
