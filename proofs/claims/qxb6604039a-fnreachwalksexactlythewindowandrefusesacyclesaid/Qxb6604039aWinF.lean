import Derived.Test.Qxb6604039aWinMem
import Derived.WalkSmall
namespace Go.Proofs.Qxb6604039a
open Go.RowKit

set_option maxRecDepth 100000 in
set_option maxHeartbeats 40000000 in
theorem window_fwd (sa pa oa ma qa fa ba : Option Addr) (sn sk pn pk n ok mn mk qn qk fn fk bn bk : Nat) (stamp start e bound : Int) (A : Nat → Option Addr) (L C : Nat → Nat) (X : Nat → Nat → Int) (A' : Nat → Option Addr) (L' C' : Nat → Nat) (X' : Nat → Nat → Int) (O M P Fw Bk : Nat → Int) (w : World)
    (hs : GraphAt w sa sn A L C X) (hp : GraphAt w pa pn A' L' C' X') (ho : IntsAt w oa n O) (hm : IntsAt w ma mn M) (hq : IntsAt w qa qn P) (hfw : IntsAt w fa fn Fw) (hbk : IntsAt w ba bn Bk) (hst : -9223372036854775808 ≤ stamp) (g0 : (sn : Int) ≤ 65536) (g1 : (pn : Int) ≤ 65536) (g2 : (n : Int) ≤ 131072) (g3 : (mn : Int) ≤ 131072) (g4 : (qn : Int) ≤ 131072) (g5 : (fn : Int) ≤ 131072) (g6 : (bn : Int) ≤ 131072) (g7 : 8 * ((n : Int) + mn + qn + fn + bn) ≤ 1048576) :
    Calls Try.prog 5 #[.slice sa sn sk, .slice pa pn pk, .slice oa n ok, .int .i64 stamp, .slice ma mn mk, .slice qa qn qk, .slice fa fn fk, .slice ba bn bk, .int .i64 start, .int .i64 e, .int .i64 bound, .bool true] w fun e w' => e = .returned (.bool true) ∧ Below w.heap.size w w' := by
  have HS : Hid (GraphAt w sa sn A L C X ∧ GraphAt w pa pn A' L' C' X' ∧ IntsAt w oa n O ∧ IntsAt w ma mn M ∧ IntsAt w qa qn P ∧ IntsAt w fa fn Fw ∧ IntsAt w ba bn Bk) := ⟨hs, hp, ho, hm, hq, hfw, hbk⟩
  have HB : Hid (Calls Try.prog 20 #[.slice sa sn sk, .slice pa pn pk, .slice oa n ok, .int .i64 stamp, .slice ma mn mk, .slice qa qn qk, .slice fa fn fk, .slice ba bn bk, .int .i64 start, .int .i64 e, .int .i64 bound, .bool true] w fun e w' => Answers (fun _ => True) e ∧ w' = w) := bytes20 sa pa oa ma qa fa ba sn sk pn pk n ok mn mk qn qk fn fk bn bk stamp start e bound true A L C X A' L' C' X' w hs hp
  clear hs hp ho hm hq hfw hbk
  have d0 : decide (65536 < (sn : Int)) = false := decide_eq_false (by omega)
  have d1 : decide (65536 < (pn : Int)) = false := decide_eq_false (by omega)
  have d2 : decide (131072 < (n : Int)) = false := decide_eq_false (by omega)
  have d3 : decide (131072 < (mn : Int)) = false := decide_eq_false (by omega)
  have d4 : decide (131072 < (qn : Int)) = false := decide_eq_false (by omega)
  have d5 : decide (131072 < (fn : Int)) = false := decide_eq_false (by omega)
  have d6 : decide (131072 < (bn : Int)) = false := decide_eq_false (by omega)
  go_enter Try.func5, Try.ntmps5
  go_wp2_with (go_at_call 20; refine HB.out.mono ?_; rintro e w1 ⟨⟨r, rfl, -⟩, rfl⟩; cases r)
  · go_ret
    exact ⟨rfl, Below.refl _ _⟩
  clear HB d0 d1 d2 d3 d4 d5 d6
  go_loopg [25, 26] sn (fun gk t i wr => ∃ (j : Nat) (z : Int), j + gk = sn ∧ i = .int .i64 j ∧ t = .int .i64 z ∧ 0 ≤ z ∧ z ≤ 1048576 ∧ wr = w1 ∧ Hid (∀ i, i < j → L i ≤ 131072))
  case atStart => exact ⟨0, _, by omega, rfl, rfl, by omega, by omega, rfl, fun i hi => by omega⟩
  case round =>
    obtain ⟨j, z, hjk, rfl, rfl, hz0, hz1, rfl, HL⟩ := hrel
    by_cases hj : j < sn
    · as_aux_lemma =>
        obtain ⟨b, o, rfl, hc⟩ := HS.out.1.1 (by omega)
        have hc' := hc j hj
        have hjI : (j : Int) < (sn : Int) := by omega
        obtain ⟨a, ha⟩ : ∃ a, A j = a := ⟨_, rfl⟩
        obtain ⟨l, hl⟩ : ∃ l, L j = l := ⟨_, rfl⟩
        obtain ⟨k, hk⟩ : ∃ k, C j = k := ⟨_, rfl⟩
        rw [ha, hl, hk] at hc'
        have HLl : Hid (L j = l) := hl
        clear ha hl hk hc
        obtain ⟨q, rfl⟩ : ∃ q, gk = q + 1 := ⟨gk - 1, by omega⟩
        by_cases hl : (l : Int) ≤ 131072
        · by_cases hz : z + (24 + 8 * (l : Int)) ≤ 1048576
          · go_wp2
            go_roundg q
            case measure => omega
            case rel =>
              refine ⟨j + 1, z + (24 + 8 * (l : Int)), by omega, by go_num, rfl, by omega, by omega, rfl, fun i hi => ?_⟩
              by_cases ei : i = j
              · subst ei; rw [HLl.out]; omega
              · exact HL.out i (by omega)
          · go_wp2
            go_ret
            exact ⟨rfl, Below.refl _ _⟩
        · go_wp2
          go_ret
          exact ⟨rfl, Below.refl _ _⟩
    · have HLs : Hid (∀ i, i < sn → L i ≤ 131072) := fun i hi => HL.out i (by omega)
      clear HL
      go_wp2
      go_loopg [25, 27] pn (fun gk t i wi => ∃ (j : Nat) (z : Int), j + gk = pn ∧ i = .int .i64 j ∧ t = .int .i64 z ∧ 0 ≤ z ∧ z ≤ 1048576 ∧ wi = wr ∧ Hid (∀ i, i < j → L' i ≤ 131072))
      case atStart => exact ⟨0, _, by omega, rfl, rfl, hz0, hz1, rfl, fun i hi => by omega⟩
      case round =>
        obtain ⟨t, y, htk, rfl, rfl, hy0, hy1, rfl, HL⟩ := hrel
        by_cases ht : t < pn
        · as_aux_lemma =>
            obtain ⟨b, o, rfl, hc⟩ := HS.out.2.1.1 (by omega)
            have hc' := hc t ht
            have htI : (t : Int) < (pn : Int) := by omega
            obtain ⟨a, ha⟩ : ∃ a, A' t = a := ⟨_, rfl⟩
            obtain ⟨l, hl⟩ : ∃ l, L' t = l := ⟨_, rfl⟩
            obtain ⟨k, hk⟩ : ∃ k, C' t = k := ⟨_, rfl⟩
            rw [ha, hl, hk] at hc'
            have HLl : Hid (L' t = l) := hl
            clear ha hl hk hc
            obtain ⟨q, rfl⟩ : ∃ q, gk = q + 1 := ⟨gk - 1, by omega⟩
            by_cases hl : (l : Int) ≤ 131072
            · by_cases hz : y + (24 + 8 * (l : Int)) ≤ 1048576
              · go_wp2
                go_roundg q
                case measure => omega
                case rel =>
                  refine ⟨t + 1, y + (24 + 8 * (l : Int)), by omega, by go_num, rfl, by omega, by omega, rfl, fun i hi => ?_⟩
                  by_cases ei : i = t
                  · subst ei; rw [HLl.out]; omega
                  · exact HL.out i (by omega)
              · go_wp2
                go_ret
                exact ⟨rfl, Below.refl _ _⟩
            · go_wp2
              go_ret
              exact ⟨rfl, Below.refl _ _⟩
        · have HLp : Hid (∀ i, i < pn → L' i ≤ 131072) := fun i hi => HL.out i (by omega)
          have HD := domain_fwd sa pa oa ma qa sn sk pn pk n ok mn mk qn qk stamp start M A L C X wr HS.out.1 HS.out.2.2.2.1 (by omega) (fun i hi => by have := HLs.out i hi; omega)
          have HDm : Hid (Calls Try.prog 21 _ wr _) := HD
          clear HL HD
          by_cases hmx : stamp < 9223372036854775807
          · go_wp2_with (go_at_call 21; refine HDm.out.mono ?_; rintro e w0 ⟨⟨r, rfl, hdom⟩, rfl⟩; cases r)
            · go_ret
              exact ⟨rfl, Below.refl _ _⟩
            obtain ⟨e1, e2, e3, e4, h01, h02, hM, hX⟩ := hdom (by first | rfl | trivial)
            clear hjk htk hdom
            subst sn pn mn qn
            obtain ⟨st, rfl⟩ : ∃ st : Nat, start = st := ⟨start.toNat, by omega⟩
            have hn1 : n ≠ 0 := by omega
            obtain ⟨b1, o1, rfl, -⟩ := HS.out.1.1 hn1
            obtain ⟨b2, o2, rfl, -⟩ := HS.out.2.1.1 hn1
            have oa0 := HS.out.2.2.1.some hn1
            have ma0 := HS.out.2.2.2.1.some hn1
            have qa0 := HS.out.2.2.2.2.1.some hn1
            have fa0 : fa = none → fn = 0 := fun h => Classical.byContradiction fun h2 => HS.out.2.2.2.2.2.1.some h2 h
            have ba0 : ba = none → bn = 0 := fun h => Classical.byContradiction fun h2 => HS.out.2.2.2.2.2.2.some h2 h
            have HX : Hid ((∀ i, i < n → M i ≤ stamp) ∧ ∀ i, i < n → ∀ j, j < L i → 0 ≤ X i j ∧ X i j < n) := ⟨hM, hX⟩
            have HA : Hid (oa ≠ none ∧ ma ≠ none ∧ qa ≠ none ∧ (fa = none → fn = 0) ∧ (ba = none → bn = 0)) := ⟨oa0, ma0, qa0, fa0, ba0⟩
            clear hM hX oa0 ma0 qa0 fa0 ba0 HDm
            refine (cloneGraph b1 o1 sk n A L C X _ HS.out.1 (by omega) (fun i hi => by have := HLs.out i hi; omega)).mono ?_
            rintro e1 w1 ⟨rfl, K1, R, h1, r1⟩
            go_wp2_with fail
            refine (cloneGraph b2 o2 pk n A' L' C' X' _ (HS.out.2.1.kept K1) (by omega) (fun i hi => by have := HLp.out i hi; omega)).mono ?_
            rintro e1 w2 ⟨rfl, K2, R', h2, r2⟩
            go_wp2_with fail
            refine (cloneInts oa ok n O _ ((HS.out.2.2.1.kept K1).kept K2) (by omega)).mono ?_
            rintro e1 w3 ⟨v3, rfl, C3⟩
            obtain ⟨g3, hg3, rfl, R3⟩ := C3.block HA.out.1
            have K3 := C3.1
            have K03 := (K1.trans K2).trans K3
            have HRZ := laid_rz (fwd := true) (O := O) (st := st) (e := e) (bound := bound) h1 r1 K2 h2 r2 K3 R3 (by omega) (fun i hi => by have := HLs.out i hi; omega) (fun i hi => by have := HLp.out i hi; omega) (fun i hi j hj => HX.out.2 i hi j hj)
            obtain ⟨c, hc⟩ : ∃ c, c = ctxOf true n (fun i => if true = true then L i else L' i) (fun i j => if true = true then X i j else X' i j) O st e bound := ⟨_, rfl⟩
            rw [← hc] at HRZ
            have HC : Hid (c = ctxOf true n (fun i => if true = true then L i else L' i) (fun i j => if true = true then X i j else X' i j) O st e bound ∧ c.n = n ∧ c.start = st ∧ c.e = e ∧ c.bound = bound ∧ c.fwd = true) := ⟨hc, by rw [hc]; rfl, by rw [hc]; rfl, by rw [hc]; rfl, by rw [hc]; rfl, by rw [hc]; rfl⟩
            have HZ : Hid (RZ c (fun k => w3.heap.size ≤ k) _ _ _ _ _ _ _ _ _ w3) := HRZ
            clear hc HRZ h1 r1 h2 r2 R3 C3
            go_wp2_with fail
            refine (cloneInts ma mk n M _ (HS.out.2.2.2.1.kept K03) (by omega)).mono ?_
            rintro e1 w4 ⟨v4, rfl, C4⟩
            obtain ⟨g4, hg4, rfl, R4⟩ := C4.block HA.out.2.1
            have K4 := C4.1
            have K04 := K03.trans K4
            clear C4
            go_wp2_with fail
            refine (cloneInts qa qk n P _ (HS.out.2.2.2.2.1.kept K04) (by omega)).mono ?_
            rintro e1 w5 ⟨v5, rfl, C5⟩
            obtain ⟨g5, hg5, rfl, R5⟩ := C5.block HA.out.2.2.1
            have K5 := C5.1
            have K05 := K04.trans K5
            clear C5
            go_wp2_with fail
            refine (cloneInts fa fk fn Fw _ (HS.out.2.2.2.2.2.1.kept K05) (by omega)).mono ?_
            rintro e1 w6 ⟨v6, rfl, C6⟩
            obtain ⟨a6, k6, rfl, ⟨x6, O6⟩, N6, I6, T6⟩ := C6.owns HA.out.2.2.2.1 (by omega)
            have K6 := C6.1
            have K06 := K05.trans K6
            clear C6
            go_wp2_with fail
            refine (cloneInts ba bk bn Bk _ (HS.out.2.2.2.2.2.2.kept K06) (by omega)).mono ?_
            rintro e1 w7 ⟨v7, rfl, C7⟩
            obtain ⟨a7, k7, rfl, ⟨x7, O7⟩, N7, I7, T7⟩ := C7.owns HA.out.2.2.2.2 (by omega)
            have K7 := C7.1
            have K07 := K06.trans K7
            clear C7
            go_wp2_with fail
            refine (cloneInts (some ⟨g4, 0, none⟩) n n M _ (row_ints (((K5.trans K6).trans K7).row R4 (fun h => h))) (by omega)).mono ?_
            rintro e1 w8 ⟨v8, rfl, C8⟩
            obtain ⟨g8, hg8, rfl, R8⟩ := C8.block (by simp)
            have K8 := C8.1
            clear C8
            go_wp2_with fail
            refine (cloneInts (some ⟨g5, 0, none⟩) n n P _ (row_ints (((K6.trans K7).trans K8).row R5 (fun h => h))) (by omega)).mono ?_
            rintro e1 w9 ⟨v9, rfl, C9⟩
            obtain ⟨g9, hg9, rfl, R9⟩ := C9.block (by simp)
            have K9 := C9.1
            clear C9
            go_wp2_with fail
            refine (cloneInts a6 k6 fn Fw _ (T6.kept ((K7.trans K8).trans K9)) (by omega)).mono ?_
            rintro e1 w10 ⟨v10, rfl, C10⟩
            obtain ⟨a10, k10, rfl, ⟨x10, O10⟩, N10, I10, T10⟩ := C10.owns (fun h => Classical.byContradiction fun h2 => T6.some h2 h) (by omega)
            have K10 := C10.1
            clear C10
            go_wp2_with fail
            refine (cloneInts a7 k7 bn Bk _ (T7.kept ((K8.trans K9).trans K10)) (by omega)).mono ?_
            rintro e1 w11 ⟨v11, rfl, C11⟩
            obtain ⟨a11, k11, rfl, ⟨x11, O11⟩, N11, I11, T11⟩ := C11.owns (fun h => Classical.byContradiction fun h2 => T7.some h2 h) (by omega)
            have K11 := C11.1
            clear C11
            have K711 := ((K8.trans K9).trans K10).trans K11
            have K311 := (((K4.trans K5).trans K6).trans K7).trans K711
            have HZ11 : Hid (RZ c (fun k => w3.heap.size ≤ k) _ _ _ _ _ _ _ _ _ w11) := HZ.out.kept0 K311
            have mkR := run_make_row' (P := Try.prog) 30 4 (.bool false) 1 Try.underlying30 Try.info4 rfl .i64 .i64 n (by omega) (by omega)
            have mkQ := make0 n (by omega)
            have hstI : (st : Int) < (n : Int) := h02
            have hcR : (madeCells #[Value.bool false] n)[st]? = some (.bool false) := by
              have h := (World.rowIs_made w11 (.bool false) n 4).cell (i := st) (by omega)
              rw [World.cell?_alloc_at _ _ _ _ rfl] at h; exact h
            obtain ⟨i0, hi, hz0, hz1, hz2⟩ := info_parts Try.info3
            have HI : Hid (Try.prog.info? 3 = some i0 ∧ i0.zero = some (.int .i64 0) ∧ i0.size = 1 ∧ i0.bytes = 8) := ⟨hi, hz0, hz1, hz2⟩
            clear hi hz0 hz1 hz2
            go_wp2_with (first | (at_builtin; refine wpList_append_one _ rfl (.tmp 217) (.tmp 219) 24 rfl 0 3 i0 (.int .i64 0) 8 Try.underlying24 HI.out.1 HI.out.2.1 HI.out.2.2.1 HI.out.2.2.2 rfl (.slice (some ⟨w11.heap.size + 1, 0, none⟩) 0 n) 0 [] rfl (by exact q0 w11 n st _ (by omega)) _ (iv st) rfl (by exact cell_new0 _ _ _ _ (by simp)) rfl (by decide) (by decide) (Nat.zero_le _) ?_; intro gq cq wq ho hg hw; have HBM : Hid (BM n [st] w11.heap.size gq cq w11 wq) := BM.start (o2 := .cells #[.int .i64 st] 3) ho hg hw; clear ho hg hw) | go_in)
            clear mkR mkQ hcR
            go_loopg [34, 35, 36] n (fun gk q34 q35 q36 wr => ∃ (Q : List Nat) (b : Bool) (h gq cq : Nat), q34 = .slice (some ⟨gq, 0, none⟩) Q.length cq ∧ q35 = .bool b ∧ q36 = .int .i64 h ∧ h + gk = n ∧ Hid (BI c h Q b [] ∧ BM n Q w11.heap.size gq cq w11 wr))
            case atStart => exact ⟨[st], false, 0, gq, cq, rfl, rfl, rfl, by omega, ⟨by have := BI.start (c := c) (by rw [HC.out.2.1, HC.out.2.2.1]; omega); rw [HC.out.2.2.1] at this; exact this, HBM.out⟩⟩
            case round =>
              clear HBM
              obtain ⟨Q, b, h, gq, cq, rfl, rfl, rfl, hgk, HP⟩ := hrel
              by_cases hQ : h < Q.length
              · as_aux_lemma =>
                  obtain ⟨p, hp⟩ : ∃ p, Q[h] = p := ⟨_, rfl⟩
                  have hpQ : p ∈ Q := by rw [← hp]; exact List.getElem_mem hQ
                  have hpn : p < n := by have := HP.out.1.lt p hpQ; rw [HC.out.2.1] at this; exact this
                  have hpnI : (p : Int) < (n : Int) := by omega
                  have hcq : wr.cell? ⟨gq, h, none⟩ = some (.int .i64 (p : Nat)) := by rw [← hp]; exact HP.out.2.que hQ
                  have hQI : (h : Int) < (Q.length : Int) := by omega
                  have hQn : Q.length ≤ n := by have := HP.out.1.len; rw [HC.out.2.1] at this; exact this
                  obtain ⟨a, k, hcell0, hrow⟩ := HZ11.out.next_fwd HC.out.2.2.2.2.2 (p := p) (by rw [HC.out.2.1]; exact hpn)
                  have hcell := HP.out.2.kept.nothing_cell (fun _ h => h) hcell0
                  have CN : Hid (Calls Try.prog 22 #[.slice (some ⟨w0.heap.size, 0, none⟩) n n, .slice (some ⟨w1.heap.size, 0, none⟩) n n, .int .i64 (p : Nat), .bool true] wr fun e w' => e = .returned (.slice a (c.nx p).length k) ∧ w' = wr) := next_fwd w0.heap.size 0 n n (.slice (some ⟨w1.heap.size, 0, none⟩) n n) p _ wr hpn ⟨_, _, _, rfl⟩ (by rw [Nat.zero_add]; exact hcell)
                  have HB2 : Hid (BI c (h + 1) Q b ((c.nx p).map (fun m => (p, m)))) := by have := HP.out.1.next hQ; rw [hp] at this; exact this
                  have HPQ : Hid (p ∈ Q ∧ Q[h] = p) := ⟨hpQ, hp⟩
                  have hbig : (c.nx p).length ≤ 1048576 := HZ11.out.big p (by rw [HC.out.2.1]; exact hpn)
                  obtain ⟨gk', rfl⟩ : ∃ q, gk = q + 1 := ⟨gk - 1, by omega⟩
                  have HBM : Hid (BM n Q w11.heap.size gq cq w11 wr) := HP.out.2
                  clear hp hpQ hcell hcell0 HP
                  go_wp2_with (go_at_call 22; refine CN.out.mono ?_; rintro e w1 ⟨rfl, rfl⟩)
                  clear CN hcq
                  rcases hrow with hnil | ⟨b3, o3, rfl, hb3, hcells⟩
                  · have hnl : (c.nx p).length = 0 := by rw [hnil]; rfl
                    have HNil : Hid (c.nx p = []) := hnil
                    clear hnil
                    refine wp_loop_rounds 1 ?_
                    rw [rounds_succ]
                    go_wp2
                    go_roundg gk'
                    case measure => omega
                    case rel => exact ⟨Q, b, h + 1, gq, cq, rfl, rfl, by go_num, by omega, ⟨by have := HB2.out; rw [HNil.out] at this; exact this, HBM.out⟩⟩
                  · have HCl : Hid (∀ j (h : j < (c.nx p).length), w11.cell? ⟨b3, o3 + j, none⟩ = some (.int .i64 ((c.nx p)[j] : Nat))) := hcells
                    clear hcells
                    have HSt : Hid (p ∈ Q ∧ BI c (h + 1) Q b (((c.nx p).drop 0).map (fun m => (p, m))) ∧ BM n Q w11.heap.size gq cq w11 w1) := ⟨HPQ.out.1, HB2.out, HBM.out⟩
                    clear HPQ HB2 HBM
                    go_loopg [34, 35, 38] (c.nx p).length (fun ik q34 q35 q38 wi => ∃ (Q : List Nat) (b : Bool) (gq cq j1 : Nat), q34 = .slice (some ⟨gq, 0, none⟩) Q.length cq ∧ q35 = .bool b ∧ q38 = .int .i64 j1 ∧ j1 + ik = (c.nx p).length ∧ Hid (p ∈ Q ∧ BI c (h + 1) Q b (((c.nx p).drop j1).map (fun m => (p, m))) ∧ BM n Q w11.heap.size gq cq w11 wi))
                    case atStart => exact ⟨Q, b, gq, cq, 0, rfl, rfl, rfl, by omega, HSt.out⟩
                    case round =>
                      clear HSt
                      obtain ⟨Q, b, gq, cq, j1, rfl, rfl, rfl, hjk1, HP⟩ := hrel
                      have hQn : Q.length ≤ n := by have := HP.out.2.1.len; rw [HC.out.2.1] at this; exact this
                      by_cases hj1 : j1 < (c.nx p).length
                      · as_aux_lemma =>
                          obtain ⟨m, hm⟩ : ∃ m, (c.nx p)[j1] = m := ⟨_, rfl⟩
                          have hmn : m < n := by have := HZ11.out.lt p (by rw [HC.out.2.1]; exact hpn) m (by rw [← hm]; exact List.getElem_mem hj1); rw [HC.out.2.1] at this; exact this
                          have hmnI : (m : Int) < (n : Int) := by omega
                          have cm : wr.cell? ⟨b3, o3 + j1, none⟩ = some (.int .i64 (m : Int)) := by rw [← hm]; exact HP.out.2.2.kept.nothing_cell (fun _ h => h) (HCl.out j1 hj1)
                          have HM : Hid ((c.nx p)[j1] = m) := hm
                          have HJ : Hid ((c.nx p).drop j1 = m :: (c.nx p).drop (j1 + 1)) := by show (c.nx p).drop j1 = _; rw [List.drop_eq_getElem_cons hj1, hm]
                          have HB : Hid (BI c (h + 1) Q b ((m :: (c.nx p).drop (j1 + 1)).map (fun m => (p, m)))) := by have := HP.out.2.1; rw [HJ.out] at this; exact this
                          clear hm
                          have cR := HP.out.2.2.inR hmn
                          have fR := HP.out.2.2.ir.frozen m
                          have co : wr.cell? ⟨g3, m, none⟩ = some (.int .i64 (c.ord m)) := HP.out.2.2.kept.nothing_cell (fun _ h => h) (HZ11.out.ord m (by rw [HC.out.2.1]; exact hmn))
                          have hj1I : (j1 : Int) < ((c.nx p).length : Int) := by omega
                          obtain ⟨q, rfl⟩ : ∃ q, gk = q + 1 := ⟨gk - 1, by omega⟩
                          by_cases hh : (m : Int) = e
                          · have hhb : ((m : Int) == e) = true := by simp [hh]
                            have Hh : Hid (hit c m = true) := by show hit c m = true; simp [hit, HC.out.2.2.2.2.2, HC.out.2.2.2.1, hh]
                            clear hh
                            go_wp2
                            go_roundg q
                            case measure => omega
                            case rel => exact ⟨Q, true, gq, cq, j1 + 1, rfl, rfl, by go_num, by omega, ⟨HP.out.1, HB.out.met HP.out.1 (HM.out ▸ List.getElem_mem hj1) Hh.out, HP.out.2.2⟩⟩
                          · have hhb : ((m : Int) == e) = false := by simp [hh]
                            have Hh : Hid (hit c m = false) := by show hit c m = false; simp [hit, HC.out.2.2.2.1, hh]
                            clear hh
            
                            by_cases hv : m ∈ Q
                            · have hd : decide (m ∈ Q) = true := decide_eq_true hv
                              rw [hd] at cR
                              have HV : Hid (m ∈ Q) := hv
                              clear hv hd
                              go_wp2
                              go_roundg q
                              case measure => omega
                              case rel => exact ⟨Q, b, gq, cq, j1 + 1, rfl, rfl, by go_num, by omega, ⟨HP.out.1, HB.out.skip Hh.out (.inl HV.out), HP.out.2.2⟩⟩
                            · have hd : decide (m ∈ Q) = false := decide_eq_false hv
                              rw [hd] at cR
                              have HV : Hid (m ∉ Q) := hv
                              clear hv hd
                              by_cases hw : c.ord m < bound
                              · have HW3 : Hid (win c m = true) := by show win c m = true; simp [win, HC.out.2.2.2.2.2, HC.out.2.2.2.2.1, hw]
                                have hwd : decide (c.ord m < bound) = true := decide_eq_true hw
                                have HG : Hid (BI c (h + 1) (Q ++ [m]) b (((c.nx p).drop (j1 + 1)).map (fun m => (p, m)))) := HB.out.grow HP.out.1 (HM.out ▸ List.getElem_mem hj1) (by rw [HC.out.2.1]; exact hmn) Hh.out HV.out HW3.out
                                have hQ1 : Q.length + 1 ≤ 1048576 := by omega
                                go_wp2_with (first | (at_builtin; refine wpList_append_one _ rfl (.tmp 279) (.tmp 281) 24 rfl 0 3 i0 (.int .i64 0) 8 Try.underlying24 HI.out.1 HI.out.2.1 HI.out.2.2.1 HI.out.2.2.2 rfl (.slice (some ⟨gq, 0, none⟩) Q.length cq) Q.length (Q.map iv) rfl (by exact HP.out.2.2.marked m _) _ (iv m) rfl (by exact cell_new0 _ _ _ _ (by simp)) rfl (by unfold maxLen; omega) (by omega) (Nat.zero_le _) ?_; intro g2 cap2 wz ho hg hw; have HBM2 : Hid (BM n (Q ++ [m]) w11.heap.size g2 cap2 w11 wz) := HP.out.2.2.grow ho hg hw; clear ho hg hw) | go_in)
                                go_roundg q
                                case measure => omega
                                case rel => exact ⟨Q ++ [m], b, g2, cap2, j1 + 1, by rw [List.length_append]; rfl, rfl, by go_num, by omega, ⟨List.mem_append_left _ HP.out.1, HG.out, HBM2.out⟩⟩
                              · have HW3 : Hid (win c m = false) := by show win c m = false; simp [win, HC.out.2.2.2.2.2, HC.out.2.2.2.2.1]; omega
                                have hwd : decide (c.ord m < bound) = false := decide_eq_false hw
                                go_wp2
                                go_roundg q
                                case measure => omega
                                case rel => exact ⟨Q, b, gq, cq, j1 + 1, rfl, rfl, by go_num, by omega, ⟨HP.out.1, HB.out.skip Hh.out (.inr HW3.out), HP.out.2.2⟩⟩
                      · go_wp2
                        go_roundg gk'
                        case measure => omega
                        case rel => exact ⟨Q, b, h + 1, gq, cq, rfl, rfl, by go_num, by omega, ⟨by have := HP.out.2.1; rw [List.drop_of_length_le (by omega)] at this; exact this, HP.out.2.2⟩⟩
              · obtain rfl : h = Q.length := by have := HP.out.1.hle; omega
                have hst' : c.start < c.n := by rw [HC.out.2.1, HC.out.2.2.1]; omega
                have HAns : Hid (Ans c (fin c) Q b P) := ans c HZ11.out.lt hst' HP.out.1 P
                have hQn : Q.length ≤ n := by have := HP.out.1.len; rw [HC.out.2.1] at this; exact this
                obtain ⟨Fl, hFl⟩ : ∃ b, (fin c).F.length = b := ⟨_, rfl⟩
                have hFp : 0 < Fl := by rw [← hFl]; exact fin_F c hst'
                have hFn : Fl ≤ n := by rw [← hFl, ← HC.out.2.1]; exact fin_len c HZ.out.lt hst'
                have HFl : Hid ((fin c).F.length = Fl) := hFl
                have HQn : Hid (∀ q ∈ Q, q < n) := fun q hq => by have := HP.out.1.lt q hq; rw [HC.out.2.1] at this; exact this
                clear hFl hst'
                cases b
                · as_aux_lemma =>
                    have HO : Hid ((fin c).ok = true ∧ (fin c).F.length = Fl) := ⟨by rw [HAns.out.ok]; rfl, HFl.out⟩
                    have K7r : Kept Nowhere w7 wr := K711.trans HP.out.2.kept
                    go_wp2_with fail
                    refine (call1_fwd HC.out.2.1 HC.out.2.2.1 HC.out.2.2.2.1 HC.out.2.2.2.2.1 HC.out.2.2.2.2.2 HO.out HZ.out K4 K5 K6 (K7.trans K7r) hg4 R4 hg5 R5 O6 N6 HX.out.1 (by omega) hst hmx).mono ?_
                    rintro e1 wz ⟨aF, kF, rfl, A1⟩
                    obtain ⟨gF, rfl⟩ := owns_some A1.fo (by omega)
                    have z3 := K03.size
                    have z4 := K4.size
                    have z5 := K5.size
                    have z6 := K6.size
                    have z7 := K7.size
                    have z8 := K8.size
                    have z9 := K9.size
                    have z10 := K10.size
                    have z11 := K11.size
                    have zr := HP.out.2.kept.size
                    have l4 := R4.lt
                    have l5 := R5.lt
                    have S7 : ∀ k, (k = g4 ∨ k = g5 ∨ (Value.slice a6 fn k6).ownBlock = some k) → k < w7.heap.size := by
                      intro k hk
                      rcases hk with rfl | rfl | hk
                      · omega
                      · omega
                      · have := (O6.lt k hk).2; omega
                    have S3 : ∀ k, (k = g4 ∨ k = g5 ∨ (Value.slice a6 fn k6).ownBlock = some k) → w3.heap.size ≤ k := by
                      intro k hk
                      rcases hk with rfl | rfl | hk
                      · omega
                      · omega
                      · have := N6 k hk; omega
                    have To : IntsAt wz a7 bn Bk := ints_keptS (T7.kept K7r) A1.kept (fun j hj h => by
                      have h1 := N7 j (own_any.trans hj)
                      have h2 := (O7.lt j (own_any.trans hj)).2
                      rcases h with h | h | h
                      · omega
                      · omega
                      · have h3 := N6 j h
                        have h4 := (O6.lt j h).2
                        omega)
                    have Tw : IntsAt wz a11 bn Bk := ints_keptS (T11.kept HP.out.2.kept) A1.kept (fun j hj h => by
                      have h1 := S7 j h
                      have h2 := N11 j (own_any.trans hj)
                      omega)
                    have HPM : Hid (PM c n Fl Q g4 g5 gF w11.heap.size g8 g9 (stamp + 1) M P w0 wz) := by
                      refine ⟨A1.mr, A1.pr, fo_cells A1.fo, A1.kept.row HP.out.2.ir (fun h => by have := S7 _ h; omega), A1.kept.row (((K9.trans K10).trans K11).trans HP.out.2.kept |>.row R8 (fun h => h)) (fun h => by have := S7 _ h; omega), A1.kept.row ((K10.trans K11).trans HP.out.2.kept |>.row R9 (fun h => h)) (fun h => by have := S7 _ h; omega), ?_⟩
                      have k1 : Kept (fun k => w0.heap.size ≤ k) w0 wr := (K07.trans K7r).mono (fun _ _ h => h.elim)
                      have k2 : Kept (fun k => w0.heap.size ≤ k) wr wz := A1.kept.mono (fun k _ h => by have := S3 k h; omega)
                      exact (k1.trans k2).below (Nat.le_refl _) (fun _ _ h => h)
                    have HZz : Hid (RZ c (fun k => w3.heap.size ≤ k) _ _ _ _ _ _ _ _ _ wz) := (HZ11.out.kept0 HP.out.2.kept).kept (A1.kept.mono (fun k _ h => S3 k h))
                    have HTo : Hid (IntsAt wz a7 bn Bk ∧ IntsAt wz a11 bn Bk ∧ a11.isNone = a7.isNone) := ⟨To, Tw, I11⟩
                    clear K1 K2 K3 K03 K4 K04 K5 K05 K6 K06 K7 K07 K8 K9 K10 K11 K711 K311 K7r R4 R5 R8 R9 O6 N6 I6 T6 O7 N7 I7 T7 O10 N10 I10 T10 O11 N11 I11 T11 A1 S7 S3 To Tw z3 z4 z5 z6 z7 z8 z9 z10 z11 zr l4 l5 hg3 hg4 hg5 hg8 hg9 HZ11 HZ HP HLs HLp HS HA
                    go_wp2_with fail
                    refine (sameInts a7 a11 bn k7 k11 Bk Bk _ HTo.out.2.2.symm HTo.out.1 HTo.out.2.1 (fun i _ => rfl) (by omega)).mono ?_
                    rintro e1 wy ⟨rfl, q1, rfl⟩
                    clear HTo
                    have hF0 : (fin c).F.getD 0 0 = st := by
                      have h := HAns.out.head
                      rw [HC.out.2.2.1] at h
                      cases hF : (fin c).F with
                      | nil => rw [hF] at h; simp at h
                      | cons a l => rw [hF] at h; simp at h; simp [h]
                    have cF0 : wz.cell? ⟨gF, 0, none⟩ = some (.int .i64 (st : Nat)) := by rw [HPM.out.fo 0 (by omega), hF0]
                    have hF1 : ((Fl : Int) == 0) = false := by simp; omega
                    have hF2 : decide (n < Fl) = false := decide_eq_false (by omega)
                    clear hF0
                    have mkA := run_make_row' (P := Try.prog) 24 3 (.int .i64 0) 8 Try.underlying24 Try.info3 rfl .i64 .i64 n (by omega) (by omega)
                    have HPMd : Hid (PM c n Fl Q g4 g5 gF w11.heap.size g8 g9 (stamp + 1) M P w0 (wz.drewN q1)) := HPM.out.kept ((Kept.refl _ _).drewN q1)
                    have HZd : Hid (RZ c (fun k => w3.heap.size ≤ k) _ _ _ _ _ _ _ _ _ (wz.drewN q1)) := HZz.out.kept0 ((Kept.refl _ _).drewN q1)
                    obtain ⟨wy, hwy⟩ : ∃ wy, wz.drewN q1 = wy := ⟨_, rfl⟩
                    rw [hwy] at HPMd HZd ⊢
                    have cF0' : wy.cell? ⟨gF, 0, none⟩ = some (.int .i64 (st : Nat)) := by rw [← hwy]; exact cF0
                    clear HPM HZz cF0 hwy
                    go_wp2
                    clear cF0' mkA hF1 hF2
                    go_loopg [51] n (fun gk i wr => ∃ u : Nat, u + gk = n ∧ i = .int .i64 u ∧ Hid (Kept Nowhere wy wr ∧ wr.rowIs wy.heap.size 3 n (fun t => .int .i64 (if t < u then -1 else 0))))
                    case atStart => exact ⟨0, by omega, rfl, (Kept.refl _ _).alloc _, (World.rowIs_made wy (.int .i64 0) n 3).congr (fun i _ => by simp)⟩
                    case round =>
                      obtain ⟨u, huk, rfl, HL⟩ := hrel
                      by_cases hu : u < n
                      · as_aux_lemma =>
                          have huI : (u : Int) < (n : Int) := by omega
                          have cA := HL.out.2.cell hu
                          have zA := HL.out.2.frozen u
                          obtain ⟨q2, rfl⟩ : ∃ q, gk = q + 1 := ⟨gk - 1, by omega⟩
                          go_wp2
                          go_roundg q2
                          case measure => omega
                          case rel =>
                            refine ⟨u + 1, by omega, by go_num, HL.out.1.setCell (.inr (Nat.le_refl _)) _, (HL.out.2.set u _).congr (fun i hi => ?_)⟩
                            by_cases e : i = u
                            · subst e; simp
                            · rw [if_neg e]; congr 1; by_cases h1 : i < u
                              · rw [if_pos h1, if_pos (by omega)]
                              · rw [if_neg h1, if_neg (by omega)]
                      · have HA0 : Hid (Kept Nowhere wy wr ∧ wr.rowIs wy.heap.size 3 n (fun t => .int .i64 (atOf (fin c).F 0 t))) := ⟨HL.out.1, HL.out.2.congr (fun i hi => by rw [if_pos (by omega)]; rfl)⟩
                        clear HL
                        go_wp2
                        go_loopg [52] Fl (fun gk i wi => ∃ u : Nat, u + gk = Fl ∧ i = .int .i64 u ∧ Hid (Kept Nowhere wy wi ∧ wi.rowIs wy.heap.size 3 n (fun t => .int .i64 (atOf (fin c).F u t))))
                        case atStart => exact ⟨0, by omega, rfl, HA0.out⟩
                        case round =>
                          clear HA0
                          obtain ⟨x, hxk, rfl, HL⟩ := hrel
                          by_cases hx : x < Fl
                          · as_aux_lemma =>
                              have hxI : (x : Int) < (Fl : Int) := by omega
                              have hxF : x < (fin c).F.length := by rw [HFl.out]; exact hx
                              obtain ⟨v, hv⟩ : ∃ v, (fin c).F[x] = v := ⟨_, rfl⟩
                              have hvF : v ∈ (fin c).F := by rw [← hv]; exact List.getElem_mem hxF
                              have hvQ : v ∈ Q := HAns.out.vq v (HAns.out.fv v hvF)
                              have hvn : v < n := HQn.out v hvQ
                              have hvnI : (v : Int) < (n : Int) := by omega
                              have cF : wr.cell? ⟨gF, x, none⟩ = some (.int .i64 (v : Nat)) := by rw [(HPMd.out.kept HL.out.1).fo x hx, List.getD_eq_getElem?_getD, List.getElem?_eq_getElem hxF, hv]; rfl
                              have cR : wr.cell? ⟨w11.heap.size, v, none⟩ = some (.bool true) := by rw [(HPMd.out.kept HL.out.1).ir.cell hvn, decide_eq_true hvQ]
                              have cA : wr.cell? ⟨wy.heap.size, v, none⟩ = some (.int .i64 (-1)) := by rw [HL.out.2.cell hvn, ← hv, atOf_new hxF HAns.out.fnd]
                              have zA := HL.out.2.frozen v
                              have dv1 : decide ((v : Int) < 0) = false := decide_eq_false (by omega)
                              have dv2 : decide (n ≤ v) = false := decide_eq_false (by omega)
                              have HV : Hid ((fin c).F[x] = v) := hv
                              obtain ⟨q2, rfl⟩ : ∃ q, gk = q + 1 := ⟨gk - 1, by omega⟩
                              clear hv hvF hvQ
                              go_wp2
                              go_roundg q2
                              case measure => omega
                              case rel =>
                                refine ⟨x + 1, by omega, by go_num, HL.out.1.setCell (.inr (Nat.le_refl _)) _, (HL.out.2.set v _).congr (fun i hi => ?_)⟩
                                rw [atOf_set hxF HAns.out.fnd, HV.out]
                                by_cases e : i = v <;> simp [e]
                          · have HAt : Hid (Kept Nowhere wy wr ∧ wr.rowIs wy.heap.size 3 n (fun t => .int .i64 (atOf (fin c).F (fin c).F.length t))) := by
                              have hx2 : x = (fin c).F.length := by rw [HFl.out]; omega
                              exact ⟨HL.out.1, by rw [← hx2]; exact HL.out.2⟩
                            clear HL
                            have hFQ : ((Fl : Int) != (Q.length : Int)) = false := by
                              have h := HAns.out.len HO.out.1
                              rw [HFl.out] at h
                              simp [h]
                            rename World => wA
                            go_wp2
                            go_loopg [55] n (fun gk i wi => ∃ u q : Nat, u + gk = n ∧ i = .int .i64 u ∧ wi = wA.drewN q)
                            case atStart => exact ⟨0, 0, by omega, rfl, rfl⟩
                            case round =>
                              obtain ⟨u, qd, huk, rfl, rfl⟩ := hrel
                              by_cases hu : u < n
                              · as_aux_lemma =>
                                  have huI : (u : Int) < (n : Int) := by omega
                                  have cW : wA.cell? ⟨g8, u, none⟩ = some (.int .i64 (M u)) := (HPMd.out.kept HAt.out.1).mw.cell hu
                                  have cA := HAt.out.2.cell hu
                                  rw [atOf_all] at cA
                                  have hMu : M u ≤ stamp := HX.out.1 u hu
                                  obtain ⟨q2, rfl⟩ : ∃ q, gk = q + 1 := ⟨gk - 1, by omega⟩
                                  by_cases hV : u ∈ (fin c).V
                                  · have cM : wA.cell? ⟨g4, u, none⟩ = some (.int .i64 (stamp + 1)) := by rw [(HPMd.out.kept HAt.out.1).mr.cell hu]; simp [markOf, hV]
                                    have cR : wA.cell? ⟨w11.heap.size, u, none⟩ = some (.bool true) := by rw [(HPMd.out.kept HAt.out.1).ir.cell hu, decide_eq_true (HAns.out.vq u hV)]
                                    have b1 : (stamp + 1 == stamp + 1) = true := by simp
                                    have b2 : (stamp + 1 != stamp + 1) = false := by simp
                                    clear hV
                                    obtain ⟨av, hav⟩ : ∃ av : Int, (if u ∈ (fin c).F then (((fin c).F.idxOf u : Nat) : Int) else -1) = av := ⟨_, rfl⟩
                                    rw [hav] at cA
                                    clear hav
                                    by_cases h0 : 0 ≤ av
                                    · have d0 : decide (0 ≤ av) = true := decide_eq_true h0
                                      go_wp2
                                      go_roundg q2
                                      case measure => omega
                                      case rel => exact ⟨u + 1, _, by omega, by go_num, rfl⟩
                                    · have d0 : decide (0 ≤ av) = false := decide_eq_false h0
                                      go_wp2
                                      go_roundg q2
                                      case measure => omega
                                      case rel => exact ⟨u + 1, _, by omega, by go_num, rfl⟩
                                  · have cM : wA.cell? ⟨g4, u, none⟩ = some (.int .i64 (M u)) := by rw [(HPMd.out.kept HAt.out.1).mr.cell hu]; simp [markOf, hV]
                                    have cR : wA.cell? ⟨w11.heap.size, u, none⟩ = some (.bool false) := by rw [(HPMd.out.kept HAt.out.1).ir.cell hu, decide_eq_false (fun h => hV (HAns.out.qv HO.out.1 u h))]
                                    have hF : u ∉ (fin c).F := fun h => hV (HAns.out.fv u h)
                                    rw [if_neg hF] at cA
                                    have b1 : (M u == stamp + 1) = false := by simp; omega
                                    have b2 : (M u != M u) = false := by simp
                                    have d0 : decide ((0 : Int) ≤ -1) = false := by decide
                                    clear hV hF
                                    go_wp2
                                    go_quiet (fail)
                                    go_wp2
                                    go_roundg q2
                                    case measure => omega
                                    case rel => exact ⟨u + 1, _, by omega, by go_num, rfl⟩
                              · have mkC := run_make_row' (P := Try.prog) 30 4 (.bool false) 1 Try.underlying30 Try.info4 rfl .i64 .i64 n (by omega) (by omega)
                                go_wp2
                                clear mkC
                                go_loopg [57] Fl (fun gk i wi => ∃ (x : Nat) (f : Nat → Bool), x + gk = Fl ∧ i = .int .i64 x ∧ Hid (Kept Nowhere wA wi ∧ wi.rowIs wA.heap.size 4 n (fun t => .bool (f t)) ∧ ∀ q ∈ (fin c).F.take x, ∀ i ∈ c.nx q, parOf P (fin c).ws i = (q : Nat) → f i = true))
                                case atStart => exact ⟨0, fun _ => false, by omega, rfl, ((Kept.refl _ _).drewN _).alloc _, World.rowIs_made (wA.drewN _) (.bool false) n 4, by simp⟩
                                case round =>
                                  obtain ⟨x, f, hxk, rfl, HL⟩ := hrel
                                  by_cases hx : x < Fl
                                  · as_aux_lemma =>
                                      have hxI : (x : Int) < (Fl : Int) := by omega
                                      have hxF : x < (fin c).F.length := by rw [HFl.out]; exact hx
                                      obtain ⟨p, hp⟩ : ∃ v, (fin c).F[x] = v := ⟨_, rfl⟩
                                      have hpF : p ∈ (fin c).F := by rw [← hp]; exact List.getElem_mem hxF
                                      have hpn : p < n := HQn.out p (HAns.out.vq p (HAns.out.fv p hpF))
                                      have hpnI : (p : Int) < (n : Int) := by omega
                                      have cF : wr.cell? ⟨gF, x, none⟩ = some (.int .i64 (p : Nat)) := by rw [(HPMd.out.kept (HAt.out.1.trans HL.out.1)).fo x hx, List.getD_eq_getElem?_getD, List.getElem?_eq_getElem hxF, hp]; rfl
                                      have HPx : Hid ((fin c).F[x] = p) := hp
                                      obtain ⟨a, k, hcell0, hrow⟩ := HZd.out.next_fwd HC.out.2.2.2.2.2 (p := p) (by rw [HC.out.2.1]; exact hpn)
                                      have hcell := (HAt.out.1.trans HL.out.1).nothing_cell (fun _ h => h) hcell0
                                      have CN : Hid (Calls Try.prog 22 #[.slice (some ⟨w0.heap.size, 0, none⟩) n n, .slice (some ⟨w1.heap.size, 0, none⟩) n n, .int .i64 (p : Nat), .bool true] wr fun e w' => e = .returned (.slice a (c.nx p).length k) ∧ w' = wr) := next_fwd w0.heap.size 0 n n (.slice (some ⟨w1.heap.size, 0, none⟩) n n) p _ wr hpn ⟨_, _, _, rfl⟩ (by rw [Nat.zero_add]; exact hcell)
                                      have hbig : (c.nx p).length ≤ 1048576 := HZd.out.big p (by rw [HC.out.2.1]; exact hpn)
                                      obtain ⟨gk', rfl⟩ : ∃ q, gk = q + 1 := ⟨gk - 1, by omega⟩
                                      clear hp hpF hcell hcell0
                                      go_wp2_with (go_at_call 22; refine CN.out.mono ?_; rintro e w1 ⟨rfl, rfl⟩)
                                      clear CN cF
                                      rcases hrow with hnil | ⟨b3, o3, rfl, hb3, hcells⟩
                                      · have hnl : (c.nx p).length = 0 := by rw [hnil]; rfl
                                        have HNil : Hid (c.nx p = []) := hnil
                                        clear hnil
                                        refine wp_loop_rounds 1 ?_
                                        rw [rounds_succ]
                                        go_wp2
                                        go_roundg gk'
                                        case measure => omega
                                        case rel =>
                                          refine ⟨x + 1, f, by omega, by go_num, HL.out.1, HL.out.2.1, fun q hq i hi hpi => ?_⟩
                                          rcases (mem_take_succ hxF q).1 hq with hq | hq
                                          · exact HL.out.2.2 q hq i hi hpi
                                          · rw [hq, HPx.out, HNil.out] at hi; simp at hi
                                      · have HCl : Hid (∀ j (h : j < (c.nx p).length), wy.cell? ⟨b3, o3 + j, none⟩ = some (.int .i64 ((c.nx p)[j] : Nat))) := hcells
                                        clear hcells
                                        go_loopg [60] (c.nx p).length (fun ik q60 wi => ∃ (j1 : Nat) (f : Nat → Bool), j1 + ik = (c.nx p).length ∧ q60 = .int .i64 j1 ∧ Hid (Kept Nowhere wA wi ∧ wi.rowIs wA.heap.size 4 n (fun t => .bool (f t)) ∧ (∀ q ∈ (fin c).F.take x, ∀ i ∈ c.nx q, parOf P (fin c).ws i = (q : Nat) → f i = true) ∧ ∀ t (h : t < (c.nx p).length), t < j1 → parOf P (fin c).ws (c.nx p)[t] = (p : Nat) → f (c.nx p)[t] = true))
                                        case atStart => exact ⟨0, f, by omega, rfl, HL.out.1, HL.out.2.1, HL.out.2.2, fun t h ht => by omega⟩
                                        case round =>
                                          clear HL
                                          obtain ⟨j1, f, hjk1, rfl, HL⟩ := hrel
                                          by_cases hj1 : j1 < (c.nx p).length
                                          · obtain ⟨m, hm⟩ : ∃ m, (c.nx p)[j1] = m := ⟨_, rfl⟩
                                            have hmn : m < n := by have := HZd.out.lt p (by rw [HC.out.2.1]; exact hpn) m (by rw [← hm]; exact List.getElem_mem hj1); rw [HC.out.2.1] at this; exact this
                                            have hmnI : (m : Int) < (n : Int) := by omega
                                            have cm : wr.cell? ⟨b3, o3 + j1, none⟩ = some (.int .i64 (m : Int)) := by rw [← hm]; exact (HAt.out.1.trans HL.out.1).nothing_cell (fun _ h => h) (HCl.out j1 hj1)
                                            have cp : wr.cell? ⟨g5, m, none⟩ = some (.int .i64 (parOf P (fin c).ws m)) := (HPMd.out.kept (HAt.out.1.trans HL.out.1)).pr.cell hmn
                                            have cC := HL.out.2.1.cell hmn
                                            have zC := HL.out.2.1.frozen m
                                            have HM : Hid ((c.nx p)[j1] = m) := hm
                                            have hj1I : (j1 : Int) < ((c.nx p).length : Int) := by omega
                                            obtain ⟨q2, rfl⟩ : ∃ q, gk = q + 1 := ⟨gk - 1, by omega⟩
                                            obtain ⟨pv, hpv⟩ : ∃ pv, parOf P (fin c).ws m = pv := ⟨_, rfl⟩
                                            rw [hpv] at cp
                                            have HPv : Hid (parOf P (fin c).ws m = pv) := hpv
                                            clear hm hpv
                                            by_cases he : pv = (p : Int)
                                            · have hb : (pv == (p : Int)) = true := by simp [he]
                                              clear he
                                              go_wp2
                                              go_roundg q2
                                              case measure => omega
                                              case rel =>
                                                refine ⟨j1 + 1, fun t => if t = m then true else f t, by omega, by go_num, HL.out.1.setCell (.inr (Nat.le_refl _)) _, (HL.out.2.1.set m _).congr (fun i hi => by by_cases e : i = m <;> simp [e]), fun q hq i hi hpi => ?_, fun t h ht hpi => ?_⟩
                                                · by_cases e : i = m
                                                  · simp [e]
                                                  · simp [e]; exact HL.out.2.2.1 q hq i hi hpi
                                                · by_cases e : (c.nx p)[t] = m
                                                  · simp [e]
                                                  · have ht' : t ≠ j1 := by rintro rfl; exact e HM.out
                                                    simp [e]; exact HL.out.2.2.2 t h (by omega) hpi
                                            · have hb : (pv == (p : Int)) = false := by simpa using he
                                              have HNe : Hid (pv ≠ (p : Int)) := he
                                              clear he
                                              go_wp2
                                              go_roundg q2
                                              case measure => omega
                                              case rel =>
                                                refine ⟨j1 + 1, f, by omega, by go_num, HL.out.1, HL.out.2.1, HL.out.2.2.1, fun t h ht hpi => ?_⟩
                                                by_cases e : t = j1
                                                · subst e; rw [HM.out, HPv.out] at hpi; exact absurd hpi HNe.out
                                                · exact HL.out.2.2.2 t h (by omega) hpi
                                          · go_wp2
                                            go_roundg gk'
                                            case measure => omega
                                            case rel =>
                                              refine ⟨x + 1, f, by omega, by go_num, HL.out.1, HL.out.2.1, fun q hq i hi hpi => ?_⟩
                                              rcases (mem_take_succ hxF q).1 hq with hq | hq
                                              · exact HL.out.2.2.1 q hq i hi hpi
                                              · rw [hq, HPx.out] at hi hpi
                                                obtain ⟨t, ht, rfl⟩ := List.getElem_of_mem hi
                                                exact HL.out.2.2.2 t ht (by omega) hpi
                                  · have HCh : Hid (Kept Nowhere wA wr ∧ wr.rowIs wA.heap.size 4 n (fun t => .bool (f t)) ∧ ∀ q ∈ (fin c).F, ∀ i ∈ c.nx q, parOf P (fin c).ws i = (q : Nat) → f i = true) := by
                                      refine ⟨HL.out.1, HL.out.2.1, fun q hq => HL.out.2.2 q ?_⟩
                                      rw [List.take_of_length_le (by rw [HFl.out]; omega)]; exact hq
                                    clear HL
                                    rename World => wC
                                    go_wp2
                                    have KyC : Kept Nowhere wy wC := HAt.out.1.trans HCh.out.1
                                    have HPC : Hid (PM c n Fl Q g4 g5 gF w11.heap.size g8 g9 (stamp + 1) M P w0 wC) := HPMd.out.kept KyC
                                    have HZC : Hid (RZ c (fun k => w3.heap.size ≤ k) _ _ _ _ _ _ _ _ _ wC) := HZd.out.kept0 KyC
                                    have HAC : Hid (wC.rowIs wy.heap.size 3 n (fun t => .int .i64 (if t ∈ (fin c).F then (((fin c).F.idxOf t : Nat) : Int) else -1))) := (HCh.out.1.row HAt.out.2 (fun h => h)).congr (fun i _ => by rw [atOf_all])
                                    clear KyC HPMd HZd HAt
                                    go_loopg [61] n (fun gk i wi => ∃ u q : Nat, u + gk = n ∧ i = .int .i64 u ∧ wi = wC.drewN q)
                                    case atStart => exact ⟨0, 0, by omega, rfl, rfl⟩
                                    case round =>
                                      obtain ⟨u, qd, huk, rfl, rfl⟩ := hrel
                                      by_cases hu : u < n
                                      · have huI : (u : Int) < (n : Int) := by omega
                                        have cP := HPC.out.pr.cell hu
                                        have cW := HPC.out.pw.cell hu
                                        have cA := HAC.out.cell hu
                                        have hMu : M u ≤ stamp := HX.out.1 u hu
                                        obtain ⟨q2, rfl⟩ : ∃ q, gk = q + 1 := ⟨gk - 1, by omega⟩
                                        have b1 : (stamp + 1 == stamp + 1) = true := by simp
                                        have HnA : Hid ((fin c).ok = false → (u : Int) ≠ c.e) := fun h => by rw [HO.out.1] at h; simp at h
                                        by_cases hV : u ∈ (fin c).V
                                        · as_aux_lemma =>
                                            have cM : wC.cell? ⟨g4, u, none⟩ = some (.int .i64 (stamp + 1)) := by rw [HPC.out.mr.cell hu]; simp [markOf, hV]
                                            by_cases hs : u = st
                                            · have hss : ((u : Int) != (st : Int)) = false := by simp [hs]
                                              rw [HAns.out.out u (fun h => h.2 (by rw [HC.out.2.2.1]; exact hs)) HnA.out] at cP
                                              have hpp : (P u != P u) = false := by simp
                                              clear hs hV
                                              go_wp2
                                              go_quiet (fail)
                                              go_wp2
                                              go_roundg q2
                                              case measure => omega
                                              case rel => exact ⟨u + 1, _, by omega, by go_num, rfl⟩
                                            · have hss : ((u : Int) != (st : Int)) = true := by simp; omega
                                              obtain ⟨p, hp, hpF, hup, hid⟩ := HAns.out.par u hV (by rw [HC.out.2.2.1]; exact hs) HnA.out
                                              rw [hp] at cP
                                              have hpn : p < n := HQn.out p (HAns.out.vq p (HAns.out.fv p hpF))
                                              have hpnI : (p : Int) < (n : Int) := by omega
                                              have cC : wC.cell? ⟨wA.heap.size, u, none⟩ = some (.bool true) := by rw [HCh.out.2.1.cell hu, HCh.out.2.2 p hpF u hup hp]
                                              obtain ⟨ip, hip⟩ : ∃ ip, (fin c).F.idxOf p = ip := ⟨_, rfl⟩
                                              have cAp : wC.cell? ⟨wy.heap.size, p, none⟩ = some (.int .i64 (ip : Nat)) := by rw [HAC.out.cell hpn, if_pos hpF, hip]
                                              have dp1 : decide ((p : Int) < 0) = false := decide_eq_false (by omega)
                                              have dp2 : decide (n ≤ p) = false := decide_eq_false (by omega)
                                              have dp3 : decide ((ip : Int) < 0) = false := decide_eq_false (by omega)
                                              by_cases hF : u ∈ (fin c).F
                                              · have hlt := hid hF
                                                rw [if_pos hF] at cA
                                                obtain ⟨iu, hiu⟩ : ∃ iu, (fin c).F.idxOf u = iu := ⟨_, rfl⟩
                                                rw [hiu] at cA hlt
                                                rw [hip] at hlt
                                                have du1 : decide ((0 : Int) ≤ (iu : Int)) = true := decide_eq_true (by omega)
                                                have du2 : decide (iu ≤ ip) = false := decide_eq_false (by omega)
                                                clear hs hV hp hpF hup hid hF hip hiu
                                                go_wp2
                                                go_quiet (fail)
                                                go_wp2
                                                go_roundg q2
                                                case measure => omega
                                                case rel => exact ⟨u + 1, _, by omega, by go_num, rfl⟩
                                              · rw [if_neg hF] at cA
                                                have du1 : decide ((0 : Int) ≤ -1) = false := by decide
                                                clear hs hV hp hpF hup hid hF hip
                                                go_wp2
                                                go_quiet (fail)
                                                go_wp2
                                                go_roundg q2
                                                case measure => omega
                                                case rel => exact ⟨u + 1, _, by omega, by go_num, rfl⟩
                                        · as_aux_lemma =>
                                            have cM : wC.cell? ⟨g4, u, none⟩ = some (.int .i64 (M u)) := by rw [HPC.out.mr.cell hu]; simp [markOf, hV]
                                            have b2 : (M u == stamp + 1) = false := by simp; omega
                                            rw [HAns.out.out u (fun h => hV h.1) HnA.out] at cP
                                            have hpp : (P u != P u) = false := by simp
                                            clear hV
                                            go_wp2
                                            go_quiet (fail)
                                            go_wp2
                                            go_roundg q2
                                            case measure => omega
                                            case rel => exact ⟨u + 1, _, by omega, by go_num, rfl⟩
                                      · go_wp2
                                        go_ret
                                        exact ⟨rfl, below_drewN HPC.out.bel _⟩
                · as_aux_lemma =>
                    have HO : Hid ((fin c).ok = false ∧ (fin c).F.length = Fl) := ⟨by rw [HAns.out.ok]; rfl, HFl.out⟩
                    have K7r : Kept Nowhere w7 wr := K711.trans HP.out.2.kept
                    go_wp2_with fail
                    refine (call1_fwd HC.out.2.1 HC.out.2.2.1 HC.out.2.2.2.1 HC.out.2.2.2.2.1 HC.out.2.2.2.2.2 HO.out HZ.out K4 K5 K6 (K7.trans K7r) hg4 R4 hg5 R5 O6 N6 HX.out.1 (by omega) hst hmx).mono ?_
                    rintro e1 wz ⟨aF, kF, rfl, A1⟩
                    obtain ⟨gF, rfl⟩ := owns_some A1.fo (by omega)
                    have z3 := K03.size
                    have z4 := K4.size
                    have z5 := K5.size
                    have z6 := K6.size
                    have z7 := K7.size
                    have z8 := K8.size
                    have z9 := K9.size
                    have z10 := K10.size
                    have z11 := K11.size
                    have zr := HP.out.2.kept.size
                    have l4 := R4.lt
                    have l5 := R5.lt
                    have S7 : ∀ k, (k = g4 ∨ k = g5 ∨ (Value.slice a6 fn k6).ownBlock = some k) → k < w7.heap.size := by
                      intro k hk
                      rcases hk with rfl | rfl | hk
                      · omega
                      · omega
                      · have := (O6.lt k hk).2; omega
                    have S3 : ∀ k, (k = g4 ∨ k = g5 ∨ (Value.slice a6 fn k6).ownBlock = some k) → w3.heap.size ≤ k := by
                      intro k hk
                      rcases hk with rfl | rfl | hk
                      · omega
                      · omega
                      · have := N6 k hk; omega
                    have To : IntsAt wz a7 bn Bk := ints_keptS (T7.kept K7r) A1.kept (fun j hj h => by
                      have h1 := N7 j (own_any.trans hj)
                      have h2 := (O7.lt j (own_any.trans hj)).2
                      rcases h with h | h | h
                      · omega
                      · omega
                      · have h3 := N6 j h
                        have h4 := (O6.lt j h).2
                        omega)
                    have Tw : IntsAt wz a11 bn Bk := ints_keptS (T11.kept HP.out.2.kept) A1.kept (fun j hj h => by
                      have h1 := S7 j h
                      have h2 := N11 j (own_any.trans hj)
                      omega)
                    have HPM : Hid (PM c n Fl Q g4 g5 gF w11.heap.size g8 g9 (stamp + 1) M P w0 wz) := by
                      refine ⟨A1.mr, A1.pr, fo_cells A1.fo, A1.kept.row HP.out.2.ir (fun h => by have := S7 _ h; omega), A1.kept.row (((K9.trans K10).trans K11).trans HP.out.2.kept |>.row R8 (fun h => h)) (fun h => by have := S7 _ h; omega), A1.kept.row ((K10.trans K11).trans HP.out.2.kept |>.row R9 (fun h => h)) (fun h => by have := S7 _ h; omega), ?_⟩
                      have k1 : Kept (fun k => w0.heap.size ≤ k) w0 wr := (K07.trans K7r).mono (fun _ _ h => h.elim)
                      have k2 : Kept (fun k => w0.heap.size ≤ k) wr wz := A1.kept.mono (fun k _ h => by have := S3 k h; omega)
                      exact (k1.trans k2).below (Nat.le_refl _) (fun _ _ h => h)
                    have HZz : Hid (RZ c (fun k => w3.heap.size ≤ k) _ _ _ _ _ _ _ _ _ wz) := (HZ11.out.kept0 HP.out.2.kept).kept (A1.kept.mono (fun k _ h => S3 k h))
                    have HTo : Hid (IntsAt wz a7 bn Bk ∧ IntsAt wz a11 bn Bk ∧ a11.isNone = a7.isNone) := ⟨To, Tw, I11⟩
                    clear K1 K2 K3 K03 K4 K04 K5 K05 K6 K06 K7 K07 K8 K9 K10 K11 K711 K311 K7r R4 R5 R8 R9 O6 N6 I6 T6 O7 N7 I7 T7 O10 N10 I10 T10 O11 N11 I11 T11 A1 S7 S3 To Tw z3 z4 z5 z6 z7 z8 z9 z10 z11 zr l4 l5 hg3 hg4 hg5 hg8 hg9 HZ11 HZ HP HLs HLp HS HA
                    go_wp2_with fail
                    refine (sameInts a7 a11 bn k7 k11 Bk Bk _ HTo.out.2.2.symm HTo.out.1 HTo.out.2.1 (fun i _ => rfl) (by omega)).mono ?_
                    rintro e1 wy ⟨rfl, q1, rfl⟩
                    clear HTo
                    have hF0 : (fin c).F.getD 0 0 = st := by
                      have h := HAns.out.head
                      rw [HC.out.2.2.1] at h
                      cases hF : (fin c).F with
                      | nil => rw [hF] at h; simp at h
                      | cons a l => rw [hF] at h; simp at h; simp [h]
                    have cF0 : wz.cell? ⟨gF, 0, none⟩ = some (.int .i64 (st : Nat)) := by rw [HPM.out.fo 0 (by omega), hF0]
                    have hF1 : ((Fl : Int) == 0) = false := by simp; omega
                    have hF2 : decide (n < Fl) = false := decide_eq_false (by omega)
                    clear hF0
                    have mkA := run_make_row' (P := Try.prog) 24 3 (.int .i64 0) 8 Try.underlying24 Try.info3 rfl .i64 .i64 n (by omega) (by omega)
                    have HPMd : Hid (PM c n Fl Q g4 g5 gF w11.heap.size g8 g9 (stamp + 1) M P w0 (wz.drewN q1)) := HPM.out.kept ((Kept.refl _ _).drewN q1)
                    have HZd : Hid (RZ c (fun k => w3.heap.size ≤ k) _ _ _ _ _ _ _ _ _ (wz.drewN q1)) := HZz.out.kept0 ((Kept.refl _ _).drewN q1)
                    obtain ⟨wy, hwy⟩ : ∃ wy, wz.drewN q1 = wy := ⟨_, rfl⟩
                    rw [hwy] at HPMd HZd ⊢
                    have cF0' : wy.cell? ⟨gF, 0, none⟩ = some (.int .i64 (st : Nat)) := by rw [← hwy]; exact cF0
                    clear HPM HZz cF0 hwy
                    go_wp2
                    clear cF0' mkA hF1 hF2
                    go_loopg [51] n (fun gk i wr => ∃ u : Nat, u + gk = n ∧ i = .int .i64 u ∧ Hid (Kept Nowhere wy wr ∧ wr.rowIs wy.heap.size 3 n (fun t => .int .i64 (if t < u then -1 else 0))))
                    case atStart => exact ⟨0, by omega, rfl, (Kept.refl _ _).alloc _, (World.rowIs_made wy (.int .i64 0) n 3).congr (fun i _ => by simp)⟩
                    case round =>
                      obtain ⟨u, huk, rfl, HL⟩ := hrel
                      by_cases hu : u < n
                      · as_aux_lemma =>
                          have huI : (u : Int) < (n : Int) := by omega
                          have cA := HL.out.2.cell hu
                          have zA := HL.out.2.frozen u
                          obtain ⟨q2, rfl⟩ : ∃ q, gk = q + 1 := ⟨gk - 1, by omega⟩
                          go_wp2
                          go_roundg q2
                          case measure => omega
                          case rel =>
                            refine ⟨u + 1, by omega, by go_num, HL.out.1.setCell (.inr (Nat.le_refl _)) _, (HL.out.2.set u _).congr (fun i hi => ?_)⟩
                            by_cases e : i = u
                            · subst e; simp
                            · rw [if_neg e]; congr 1; by_cases h1 : i < u
                              · rw [if_pos h1, if_pos (by omega)]
                              · rw [if_neg h1, if_neg (by omega)]
                      · have HA0 : Hid (Kept Nowhere wy wr ∧ wr.rowIs wy.heap.size 3 n (fun t => .int .i64 (atOf (fin c).F 0 t))) := ⟨HL.out.1, HL.out.2.congr (fun i hi => by rw [if_pos (by omega)]; rfl)⟩
                        clear HL
                        go_wp2
                        go_loopg [52] Fl (fun gk i wi => ∃ u : Nat, u + gk = Fl ∧ i = .int .i64 u ∧ Hid (Kept Nowhere wy wi ∧ wi.rowIs wy.heap.size 3 n (fun t => .int .i64 (atOf (fin c).F u t))))
                        case atStart => exact ⟨0, by omega, rfl, HA0.out⟩
                        case round =>
                          clear HA0
                          obtain ⟨x, hxk, rfl, HL⟩ := hrel
                          by_cases hx : x < Fl
                          · as_aux_lemma =>
                              have hxI : (x : Int) < (Fl : Int) := by omega
                              have hxF : x < (fin c).F.length := by rw [HFl.out]; exact hx
                              obtain ⟨v, hv⟩ : ∃ v, (fin c).F[x] = v := ⟨_, rfl⟩
                              have hvF : v ∈ (fin c).F := by rw [← hv]; exact List.getElem_mem hxF
                              have hvQ : v ∈ Q := HAns.out.vq v (HAns.out.fv v hvF)
                              have hvn : v < n := HQn.out v hvQ
                              have hvnI : (v : Int) < (n : Int) := by omega
                              have cF : wr.cell? ⟨gF, x, none⟩ = some (.int .i64 (v : Nat)) := by rw [(HPMd.out.kept HL.out.1).fo x hx, List.getD_eq_getElem?_getD, List.getElem?_eq_getElem hxF, hv]; rfl
                              have cR : wr.cell? ⟨w11.heap.size, v, none⟩ = some (.bool true) := by rw [(HPMd.out.kept HL.out.1).ir.cell hvn, decide_eq_true hvQ]
                              have cA : wr.cell? ⟨wy.heap.size, v, none⟩ = some (.int .i64 (-1)) := by rw [HL.out.2.cell hvn, ← hv, atOf_new hxF HAns.out.fnd]
                              have zA := HL.out.2.frozen v
                              have dv1 : decide ((v : Int) < 0) = false := decide_eq_false (by omega)
                              have dv2 : decide (n ≤ v) = false := decide_eq_false (by omega)
                              have HV : Hid ((fin c).F[x] = v) := hv
                              obtain ⟨q2, rfl⟩ : ∃ q, gk = q + 1 := ⟨gk - 1, by omega⟩
                              clear hv hvF hvQ
                              go_wp2
                              go_roundg q2
                              case measure => omega
                              case rel =>
                                refine ⟨x + 1, by omega, by go_num, HL.out.1.setCell (.inr (Nat.le_refl _)) _, (HL.out.2.set v _).congr (fun i hi => ?_)⟩
                                rw [atOf_set hxF HAns.out.fnd, HV.out]
                                by_cases e : i = v <;> simp [e]
                          · have HAt : Hid (Kept Nowhere wy wr ∧ wr.rowIs wy.heap.size 3 n (fun t => .int .i64 (atOf (fin c).F (fin c).F.length t))) := by
                              have hx2 : x = (fin c).F.length := by rw [HFl.out]; omega
                              exact ⟨HL.out.1, by rw [← hx2]; exact HL.out.2⟩
                            clear HL
                            rename World => wA
                            go_wp2
                            go_loopg [55] n (fun gk i wi => ∃ u q : Nat, u + gk = n ∧ i = .int .i64 u ∧ wi = wA.drewN q)
                            case atStart => exact ⟨0, 0, by omega, rfl, rfl⟩
                            case round =>
                              obtain ⟨u, qd, huk, rfl, rfl⟩ := hrel
                              by_cases hu : u < n
                              · as_aux_lemma =>
                                  have huI : (u : Int) < (n : Int) := by omega
                                  have cW : wA.cell? ⟨g8, u, none⟩ = some (.int .i64 (M u)) := (HPMd.out.kept HAt.out.1).mw.cell hu
                                  have cA := HAt.out.2.cell hu
                                  rw [atOf_all] at cA
                                  have hMu : M u ≤ stamp := HX.out.1 u hu
                                  obtain ⟨q2, rfl⟩ : ∃ q, gk = q + 1 := ⟨gk - 1, by omega⟩
                                  by_cases hV : u ∈ (fin c).V
                                  · have cM : wA.cell? ⟨g4, u, none⟩ = some (.int .i64 (stamp + 1)) := by rw [(HPMd.out.kept HAt.out.1).mr.cell hu]; simp [markOf, hV]
                                    have cR : wA.cell? ⟨w11.heap.size, u, none⟩ = some (.bool true) := by rw [(HPMd.out.kept HAt.out.1).ir.cell hu, decide_eq_true (HAns.out.vq u hV)]
                                    have b1 : (stamp + 1 == stamp + 1) = true := by simp
                                    have b2 : (stamp + 1 != stamp + 1) = false := by simp
                                    clear hV
                                    obtain ⟨av, hav⟩ : ∃ av : Int, (if u ∈ (fin c).F then (((fin c).F.idxOf u : Nat) : Int) else -1) = av := ⟨_, rfl⟩
                                    rw [hav] at cA
                                    clear hav
                                    by_cases h0 : 0 ≤ av
                                    · have d0 : decide (0 ≤ av) = true := decide_eq_true h0
                                      go_wp2
                                      go_roundg q2
                                      case measure => omega
                                      case rel => exact ⟨u + 1, _, by omega, by go_num, rfl⟩
                                    · have d0 : decide (0 ≤ av) = false := decide_eq_false h0
                                      go_wp2
                                      go_roundg q2
                                      case measure => omega
                                      case rel => exact ⟨u + 1, _, by omega, by go_num, rfl⟩
                                  · have cM : wA.cell? ⟨g4, u, none⟩ = some (.int .i64 (M u)) := by rw [(HPMd.out.kept HAt.out.1).mr.cell hu]; simp [markOf, hV]
                                    obtain ⟨rb, cR⟩ : ∃ rb, wA.cell? ⟨w11.heap.size, u, none⟩ = some (.bool rb) := ⟨_, (HPMd.out.kept HAt.out.1).ir.cell hu⟩
                                    have hF : u ∉ (fin c).F := fun h => hV (HAns.out.fv u h)
                                    rw [if_neg hF] at cA
                                    have b1 : (M u == stamp + 1) = false := by simp; omega
                                    have b2 : (M u != M u) = false := by simp
                                    have d0 : decide ((0 : Int) ≤ -1) = false := by decide
                                    clear hV hF
                                    go_wp2
                                    go_quiet (fail)
                                    go_wp2
                                    go_roundg q2
                                    case measure => omega
                                    case rel => exact ⟨u + 1, _, by omega, by go_num, rfl⟩
                              · have mkC := run_make_row' (P := Try.prog) 30 4 (.bool false) 1 Try.underlying30 Try.info4 rfl .i64 .i64 n (by omega) (by omega)
                                go_wp2
                                clear mkC
                                go_loopg [57] Fl (fun gk i wi => ∃ (x : Nat) (f : Nat → Bool), x + gk = Fl ∧ i = .int .i64 x ∧ Hid (Kept Nowhere wA wi ∧ wi.rowIs wA.heap.size 4 n (fun t => .bool (f t)) ∧ ∀ q ∈ (fin c).F.take x, ∀ i ∈ c.nx q, parOf P (fin c).ws i = (q : Nat) → f i = true))
                                case atStart => exact ⟨0, fun _ => false, by omega, rfl, ((Kept.refl _ _).drewN _).alloc _, World.rowIs_made (wA.drewN _) (.bool false) n 4, by simp⟩
                                case round =>
                                  obtain ⟨x, f, hxk, rfl, HL⟩ := hrel
                                  by_cases hx : x < Fl
                                  · as_aux_lemma =>
                                      have hxI : (x : Int) < (Fl : Int) := by omega
                                      have hxF : x < (fin c).F.length := by rw [HFl.out]; exact hx
                                      obtain ⟨p, hp⟩ : ∃ v, (fin c).F[x] = v := ⟨_, rfl⟩
                                      have hpF : p ∈ (fin c).F := by rw [← hp]; exact List.getElem_mem hxF
                                      have hpn : p < n := HQn.out p (HAns.out.vq p (HAns.out.fv p hpF))
                                      have hpnI : (p : Int) < (n : Int) := by omega
                                      have cF : wr.cell? ⟨gF, x, none⟩ = some (.int .i64 (p : Nat)) := by rw [(HPMd.out.kept (HAt.out.1.trans HL.out.1)).fo x hx, List.getD_eq_getElem?_getD, List.getElem?_eq_getElem hxF, hp]; rfl
                                      have HPx : Hid ((fin c).F[x] = p) := hp
                                      obtain ⟨a, k, hcell0, hrow⟩ := HZd.out.next_fwd HC.out.2.2.2.2.2 (p := p) (by rw [HC.out.2.1]; exact hpn)
                                      have hcell := (HAt.out.1.trans HL.out.1).nothing_cell (fun _ h => h) hcell0
                                      have CN : Hid (Calls Try.prog 22 #[.slice (some ⟨w0.heap.size, 0, none⟩) n n, .slice (some ⟨w1.heap.size, 0, none⟩) n n, .int .i64 (p : Nat), .bool true] wr fun e w' => e = .returned (.slice a (c.nx p).length k) ∧ w' = wr) := next_fwd w0.heap.size 0 n n (.slice (some ⟨w1.heap.size, 0, none⟩) n n) p _ wr hpn ⟨_, _, _, rfl⟩ (by rw [Nat.zero_add]; exact hcell)
                                      have hbig : (c.nx p).length ≤ 1048576 := HZd.out.big p (by rw [HC.out.2.1]; exact hpn)
                                      obtain ⟨gk', rfl⟩ : ∃ q, gk = q + 1 := ⟨gk - 1, by omega⟩
                                      clear hp hpF hcell hcell0
                                      go_wp2_with (go_at_call 22; refine CN.out.mono ?_; rintro e w1 ⟨rfl, rfl⟩)
                                      clear CN cF
                                      rcases hrow with hnil | ⟨b3, o3, rfl, hb3, hcells⟩
                                      · have hnl : (c.nx p).length = 0 := by rw [hnil]; rfl
                                        have HNil : Hid (c.nx p = []) := hnil
                                        clear hnil
                                        refine wp_loop_rounds 1 ?_
                                        rw [rounds_succ]
                                        go_wp2
                                        go_roundg gk'
                                        case measure => omega
                                        case rel =>
                                          refine ⟨x + 1, f, by omega, by go_num, HL.out.1, HL.out.2.1, fun q hq i hi hpi => ?_⟩
                                          rcases (mem_take_succ hxF q).1 hq with hq | hq
                                          · exact HL.out.2.2 q hq i hi hpi
                                          · rw [hq, HPx.out, HNil.out] at hi; simp at hi
                                      · have HCl : Hid (∀ j (h : j < (c.nx p).length), wy.cell? ⟨b3, o3 + j, none⟩ = some (.int .i64 ((c.nx p)[j] : Nat))) := hcells
                                        clear hcells
                                        go_loopg [60] (c.nx p).length (fun ik q60 wi => ∃ (j1 : Nat) (f : Nat → Bool), j1 + ik = (c.nx p).length ∧ q60 = .int .i64 j1 ∧ Hid (Kept Nowhere wA wi ∧ wi.rowIs wA.heap.size 4 n (fun t => .bool (f t)) ∧ (∀ q ∈ (fin c).F.take x, ∀ i ∈ c.nx q, parOf P (fin c).ws i = (q : Nat) → f i = true) ∧ ∀ t (h : t < (c.nx p).length), t < j1 → parOf P (fin c).ws (c.nx p)[t] = (p : Nat) → f (c.nx p)[t] = true))
                                        case atStart => exact ⟨0, f, by omega, rfl, HL.out.1, HL.out.2.1, HL.out.2.2, fun t h ht => by omega⟩
                                        case round =>
                                          clear HL
                                          obtain ⟨j1, f, hjk1, rfl, HL⟩ := hrel
                                          by_cases hj1 : j1 < (c.nx p).length
                                          · obtain ⟨m, hm⟩ : ∃ m, (c.nx p)[j1] = m := ⟨_, rfl⟩
                                            have hmn : m < n := by have := HZd.out.lt p (by rw [HC.out.2.1]; exact hpn) m (by rw [← hm]; exact List.getElem_mem hj1); rw [HC.out.2.1] at this; exact this
                                            have hmnI : (m : Int) < (n : Int) := by omega
                                            have cm : wr.cell? ⟨b3, o3 + j1, none⟩ = some (.int .i64 (m : Int)) := by rw [← hm]; exact (HAt.out.1.trans HL.out.1).nothing_cell (fun _ h => h) (HCl.out j1 hj1)
                                            have cp : wr.cell? ⟨g5, m, none⟩ = some (.int .i64 (parOf P (fin c).ws m)) := (HPMd.out.kept (HAt.out.1.trans HL.out.1)).pr.cell hmn
                                            have cC := HL.out.2.1.cell hmn
                                            have zC := HL.out.2.1.frozen m
                                            have HM : Hid ((c.nx p)[j1] = m) := hm
                                            have hj1I : (j1 : Int) < ((c.nx p).length : Int) := by omega
                                            obtain ⟨q2, rfl⟩ : ∃ q, gk = q + 1 := ⟨gk - 1, by omega⟩
                                            obtain ⟨pv, hpv⟩ : ∃ pv, parOf P (fin c).ws m = pv := ⟨_, rfl⟩
                                            rw [hpv] at cp
                                            have HPv : Hid (parOf P (fin c).ws m = pv) := hpv
                                            clear hm hpv
                                            by_cases he : pv = (p : Int)
                                            · have hb : (pv == (p : Int)) = true := by simp [he]
                                              clear he
                                              go_wp2
                                              go_roundg q2
                                              case measure => omega
                                              case rel =>
                                                refine ⟨j1 + 1, fun t => if t = m then true else f t, by omega, by go_num, HL.out.1.setCell (.inr (Nat.le_refl _)) _, (HL.out.2.1.set m _).congr (fun i hi => by by_cases e : i = m <;> simp [e]), fun q hq i hi hpi => ?_, fun t h ht hpi => ?_⟩
                                                · by_cases e : i = m
                                                  · simp [e]
                                                  · simp [e]; exact HL.out.2.2.1 q hq i hi hpi
                                                · by_cases e : (c.nx p)[t] = m
                                                  · simp [e]
                                                  · have ht' : t ≠ j1 := by rintro rfl; exact e HM.out
                                                    simp [e]; exact HL.out.2.2.2 t h (by omega) hpi
                                            · have hb : (pv == (p : Int)) = false := by simpa using he
                                              have HNe : Hid (pv ≠ (p : Int)) := he
                                              clear he
                                              go_wp2
                                              go_roundg q2
                                              case measure => omega
                                              case rel =>
                                                refine ⟨j1 + 1, f, by omega, by go_num, HL.out.1, HL.out.2.1, HL.out.2.2.1, fun t h ht hpi => ?_⟩
                                                by_cases e : t = j1
                                                · subst e; rw [HM.out, HPv.out] at hpi; exact absurd hpi HNe.out
                                                · exact HL.out.2.2.2 t h (by omega) hpi
                                          · go_wp2
                                            go_roundg gk'
                                            case measure => omega
                                            case rel =>
                                              refine ⟨x + 1, f, by omega, by go_num, HL.out.1, HL.out.2.1, fun q hq i hi hpi => ?_⟩
                                              rcases (mem_take_succ hxF q).1 hq with hq | hq
                                              · exact HL.out.2.2.1 q hq i hi hpi
                                              · rw [hq, HPx.out] at hi hpi
                                                obtain ⟨t, ht, rfl⟩ := List.getElem_of_mem hi
                                                exact HL.out.2.2.2 t ht (by omega) hpi
                                  · have HCh : Hid (Kept Nowhere wA wr ∧ wr.rowIs wA.heap.size 4 n (fun t => .bool (f t)) ∧ ∀ q ∈ (fin c).F, ∀ i ∈ c.nx q, parOf P (fin c).ws i = (q : Nat) → f i = true) := by
                                      refine ⟨HL.out.1, HL.out.2.1, fun q hq => HL.out.2.2 q ?_⟩
                                      rw [List.take_of_length_le (by rw [HFl.out]; omega)]; exact hq
                                    clear HL
                                    rename World => wC
                                    go_wp2
                                    have KyC : Kept Nowhere wy wC := HAt.out.1.trans HCh.out.1
                                    have HPC : Hid (PM c n Fl Q g4 g5 gF w11.heap.size g8 g9 (stamp + 1) M P w0 wC) := HPMd.out.kept KyC
                                    have HZC : Hid (RZ c (fun k => w3.heap.size ≤ k) _ _ _ _ _ _ _ _ _ wC) := HZd.out.kept0 KyC
                                    have HAC : Hid (wC.rowIs wy.heap.size 3 n (fun t => .int .i64 (if t ∈ (fin c).F then (((fin c).F.idxOf t : Nat) : Int) else -1))) := (HCh.out.1.row HAt.out.2 (fun h => h)).congr (fun i _ => by rw [atOf_all])
                                    clear KyC HPMd HZd HAt
                                    go_loopg [61] n (fun gk i wi => ∃ u q : Nat, u + gk = n ∧ i = .int .i64 u ∧ wi = wC.drewN q)
                                    case atStart => exact ⟨0, 0, by omega, rfl, rfl⟩
                                    case round =>
                                      obtain ⟨u, qd, huk, rfl, rfl⟩ := hrel
                                      by_cases hu : u < n
                                      · have huI : (u : Int) < (n : Int) := by omega
                                        have cP := HPC.out.pr.cell hu
                                        have cW := HPC.out.pw.cell hu
                                        have cA := HAC.out.cell hu
                                        have hMu : M u ≤ stamp := HX.out.1 u hu
                                        obtain ⟨q2, rfl⟩ : ∃ q, gk = q + 1 := ⟨gk - 1, by omega⟩
                                        have b1 : (stamp + 1 == stamp + 1) = true := by simp
                                        by_cases hA : (u : Int) = e
                                        · as_aux_lemma =>
                                            obtain ⟨pL, hl, hpl, hul⟩ := HAns.out.stop HO.out.1 u (by rw [hA, HC.out.2.2.2.1])
                                            rw [hpl] at cP
                                            have hpF : pL ∈ (fin c).F := List.mem_of_getLast? hl
                                            have hpn : pL < n := HQn.out pL (HAns.out.vq pL (HAns.out.fv pL hpF))
                                            have hpnI : (pL : Int) < (n : Int) := by omega
                                            have cL : wC.cell? ⟨gF, Fl - 1, none⟩ = some (.int .i64 (pL : Nat)) := by
                                              rw [HPC.out.fo (Fl - 1) (by omega)]
                                              rw [List.getLast?_eq_getElem?, HFl.out] at hl
                                              rw [List.getD_eq_getElem?_getD, hl]; rfl
                                            have hFl1 : (Fl : Int) - 1 < (Fl : Int) := by omega
                                            have hue : ((u : Int) == e) = true := by simp [hA]
                                            have hpp : ((pL : Int) != (pL : Int)) = false := by simp
                                            obtain ⟨a, k, hcell, hrow⟩ := HZC.out.next_fwd HC.out.2.2.2.2.2 (p := pL) (by rw [HC.out.2.1]; exact hpn)
                                            rcases hrow with hnil | ⟨b3, o3, rfl, hb3, hcells⟩
                                            · rw [hnil] at hul; simp at hul
                                            · have CN : Hid (∀ W, Drawn wC W → Calls Try.prog 22 #[.slice (some ⟨w0.heap.size, 0, none⟩) n n, .slice (some ⟨w1.heap.size, 0, none⟩) n n, .int .i64 (pL : Nat), .bool true] W fun e w' => e = .returned (.slice (some ⟨b3, o3, none⟩) (c.nx pL).length k) ∧ w' = W) := fun W hW => next_fwd w0.heap.size 0 n n (.slice (some ⟨w1.heap.size, 0, none⟩) n n) pL _ W hpn ⟨_, _, _, rfl⟩ (by rw [Nat.zero_add, ← hcell]; simp only [World.cell?, hW.1])
                                              have CH : Hid (∀ W, Drawn wC W → Calls Try.prog 25 #[.slice (some ⟨b3, o3, none⟩) (c.nx pL).length k, .int .i64 e] W fun e w' => e = .returned (.bool true) ∧ w' = W) := fun W hW => has_yes b3 o3 k (c.nx pL) e W (HZC.out.big pL (by rw [HC.out.2.1]; exact hpn)) ⟨u, hul, hA⟩ (fun j hj => by rw [← hcells j hj]; simp only [World.cell?, hW.1])
                                              clear hl hpl hul hpF hA hcell hcells
                                              go_wp2_with (first | (go_at_call 22; refine (CN.out _ (by exact (Drawn.refl _).drewN _)).mono ?_; rintro e1 w5 ⟨rfl, rfl⟩) | (go_at_call 25; refine (CH.out _ (by exact (Drawn.refl _).drewN _)).mono ?_; rintro e1 w5 ⟨rfl, rfl⟩))
                                              go_roundg q2
                                              case measure => omega
                                              case rel => exact ⟨u + 1, _, by omega, by go_num, rfl⟩
                                        have hue : ((u : Int) == e) = false := by simp [hA]
                                        have HnA : Hid ((fin c).ok = false → (u : Int) ≠ c.e) := fun _ => by rw [HC.out.2.2.2.1]; exact hA
                                        clear hA
                                        by_cases hV : u ∈ (fin c).V
                                        · as_aux_lemma =>
                                            have cM : wC.cell? ⟨g4, u, none⟩ = some (.int .i64 (stamp + 1)) := by rw [HPC.out.mr.cell hu]; simp [markOf, hV]
                                            by_cases hs : u = st
                                            · have hss : ((u : Int) != (st : Int)) = false := by simp [hs]
                                              rw [HAns.out.out u (fun h => h.2 (by rw [HC.out.2.2.1]; exact hs)) HnA.out] at cP
                                              have hpp : (P u != P u) = false := by simp
                                              clear hs hV
                                              go_wp2
                                              go_quiet (fail)
                                              go_wp2
                                              go_roundg q2
                                              case measure => omega
                                              case rel => exact ⟨u + 1, _, by omega, by go_num, rfl⟩
                                            · have hss : ((u : Int) != (st : Int)) = true := by simp; omega
                                              obtain ⟨p, hp, hpF, hup, hid⟩ := HAns.out.par u hV (by rw [HC.out.2.2.1]; exact hs) HnA.out
                                              rw [hp] at cP
                                              have hpn : p < n := HQn.out p (HAns.out.vq p (HAns.out.fv p hpF))
                                              have hpnI : (p : Int) < (n : Int) := by omega
                                              have cC : wC.cell? ⟨wA.heap.size, u, none⟩ = some (.bool true) := by rw [HCh.out.2.1.cell hu, HCh.out.2.2 p hpF u hup hp]
                                              obtain ⟨ip, hip⟩ : ∃ ip, (fin c).F.idxOf p = ip := ⟨_, rfl⟩
                                              have cAp : wC.cell? ⟨wy.heap.size, p, none⟩ = some (.int .i64 (ip : Nat)) := by rw [HAC.out.cell hpn, if_pos hpF, hip]
                                              have dp1 : decide ((p : Int) < 0) = false := decide_eq_false (by omega)
                                              have dp2 : decide (n ≤ p) = false := decide_eq_false (by omega)
                                              have dp3 : decide ((ip : Int) < 0) = false := decide_eq_false (by omega)
                                              by_cases hF : u ∈ (fin c).F
                                              · have hlt := hid hF
                                                rw [if_pos hF] at cA
                                                obtain ⟨iu, hiu⟩ : ∃ iu, (fin c).F.idxOf u = iu := ⟨_, rfl⟩
                                                rw [hiu] at cA hlt
                                                rw [hip] at hlt
                                                have du1 : decide ((0 : Int) ≤ (iu : Int)) = true := decide_eq_true (by omega)
                                                have du2 : decide (iu ≤ ip) = false := decide_eq_false (by omega)
                                                clear hs hV hp hpF hup hid hF hip hiu
                                                go_wp2
                                                go_quiet (fail)
                                                go_wp2
                                                go_roundg q2
                                                case measure => omega
                                                case rel => exact ⟨u + 1, _, by omega, by go_num, rfl⟩
                                              · rw [if_neg hF] at cA
                                                have du1 : decide ((0 : Int) ≤ -1) = false := by decide
                                                clear hs hV hp hpF hup hid hF hip
                                                go_wp2
                                                go_quiet (fail)
                                                go_wp2
                                                go_roundg q2
                                                case measure => omega
                                                case rel => exact ⟨u + 1, _, by omega, by go_num, rfl⟩
                                        · as_aux_lemma =>
                                            have cM : wC.cell? ⟨g4, u, none⟩ = some (.int .i64 (M u)) := by rw [HPC.out.mr.cell hu]; simp [markOf, hV]
                                            have b2 : (M u == stamp + 1) = false := by simp; omega
                                            rw [HAns.out.out u (fun h => hV h.1) HnA.out] at cP
                                            have hpp : (P u != P u) = false := by simp
                                            clear hV
                                            go_wp2
                                            go_quiet (fail)
                                            go_wp2
                                            go_roundg q2
                                            case measure => omega
                                            case rel => exact ⟨u + 1, _, by omega, by go_num, rfl⟩
                                      · go_wp2
                                        go_ret
                                        exact ⟨rfl, below_drewN HPC.out.bel _⟩
          · go_wp2
            go_ret
            exact ⟨rfl, Below.refl _ _⟩

end Go.Proofs.Qxb6604039a
