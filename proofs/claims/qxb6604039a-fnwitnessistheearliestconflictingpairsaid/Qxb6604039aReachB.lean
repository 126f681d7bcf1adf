import Derived.Test.Qxb6604039aReach
import Derived.WalkSpells
import Derived.WalkLawsBesides
import Derived.Deep.QuietTactic
import Derived.BigQuiet
import Derived.Deep.RegionWith
import Derived.RegionTactic
import Derived.BigRegion
import Derived.Deep.CutRange
import Derived.Deep.DeepCutAuto
namespace Go.Proofs.Qxb6604039a
open Go.RowKit


set_option maxRecDepth 100000 in
set_option maxHeartbeats 2000000 in
theorem reach_bwd (c : Ctx) (S : Nat → Prop) (x : Fix) (bn bq bo : Nat) (A : Nat → Option Addr) (L C : Nat → Nat) (A' : Nat → Option Addr) (L' C' : Nat → Nat) (stamp : Int) (ba : Option Addr) (bl bc : Nat) (fx : List Value) (w : World)
    (hro : RO c S bn bq bo A L C A' L' C' w)
    (e0 : x.nodesV = .slice (some ⟨bn, 0, none⟩) c.n c.n) (e1 : x.predV = .slice (some ⟨bq, 0, none⟩) c.n c.n) (e2 : x.ordV = .slice (some ⟨bo, 0, none⟩) c.n c.n) (e4 : x.backV = .slice ba bl bc) (e5 : x.now = stamp + 1)
    (hd : DAt w x.bd x.nodesV x.predV x.ordV stamp (.slice (some ⟨x.bm, 0, none⟩) c.n c.n) (.slice (some ⟨x.bp, 0, none⟩) c.n c.n) (.slice none 0 0) x.fwdV x.backV)
    (hmk : w.rowIs x.bm 3 c.n (fun i => .int .i64 (x.M i))) (hpr : w.rowIs x.bp 3 c.n (fun i => .int .i64 (x.P i)))
    (hfo : w.ownsRow 0 3 1 (.slice ba bl bc) bl fx) (hfS : ∀ k, (Value.slice ba bl bc).ownBlock = some k → S k)
    (hfd : (Value.slice ba bl bc).ownBlock ≠ some x.bd ∧ (Value.slice ba bl bc).ownBlock ≠ some x.bm ∧ (Value.slice ba bl bc).ownBlock ≠ some x.bp)
    (own : S x.bd ∧ S x.bm ∧ S x.bp) (ne : x.bd ≠ x.bm ∧ x.bd ≠ x.bp ∧ x.bm ≠ x.bp)
    (hMn : ∀ i, i < c.n → x.M i < x.now) (hst : c.start < c.n) (hs1 : -9223372036854775808 ≤ stamp) (hs2 : stamp < 9223372036854775807) (hf : c.fwd = false) :
    Calls Try.prog 29 #[.pointer (some ⟨x.bd, 0, none⟩), .int .i64 (c.start : Nat), .int .i64 c.e,   .int .i64 c.bound, .bool false] w fun e w' => e = .returned (.bool (fin c).ok) ∧ ∃ a k sv, Done c S x (fin c) (.slice a (fin c).F.length k) w w' ∧ DAt w' x.bd x.nodesV x.predV x.ordV x.now (.slice (some ⟨x.bm, 0, none⟩) c.n c.n) (.slice (some ⟨x.bp, 0, none⟩) c.n c.n) sv x.fwdV (.slice a (fin c).F.length k) := by
  have HN : Hid (x.now = stamp + 1) := e5
  have H0 : Hid (x.nodesV = .slice (some ⟨bn, 0, none⟩) c.n c.n ∧ x.predV = .slice (some ⟨bq, 0, none⟩) c.n c.n ∧ x.ordV = .slice (some ⟨bo, 0, none⟩) c.n c.n) := ⟨e0, e1, e2⟩
  have c5 := hd.c5
  have c6 := hd.c6
  have c8 := hd.c8
  have c10 := hd.c10
  rw [e4] at c10
  have fz := hd.fz
  have m1 := hmk.cell hst
  have mf := hmk.frozen c.start
  have hst' : (c.start : Int) < (c.n : Int) := by omega
  have n1 : ¬ x.bm = x.bd := fun e => ne.1 e.symm
  have n1' : ¬ x.bd = x.bm := ne.1
  have hnb := hro.nbig
  obtain ⟨i0, hi, hz0, hz1, hz2⟩ := info_parts Try.info3
  have HI : Hid (Try.prog.info? 3 = some i0 ∧ i0.zero = some (.int .i64 0) ∧ i0.size = 1 ∧ i0.bytes = 8) := ⟨hi, hz0, hz1, hz2⟩
  have HW : Hid (RO c S bn bq bo A L C A' L' C' w) := hro
  have HD : Hid (_ ∧ _) := ⟨hd, hmk⟩
  clear hi hz0 hz1 hz2 e0 e1 e2 e4 e5 hro
  go_enter Try.func29, Try.ntmps29
  go_wp2
  go_region
  go_wp2_with (first | (at_builtin; refine wpList_append_one _ rfl (.tmp 50) (.tmp 52) 24 rfl 0 3 i0 (.int .i64 0) 8 Try.underlying24 HI.out.1 HI.out.2.1 HI.out.2.2.1 HI.out.2.2.2 rfl _ 0 [] rfl (World.ownsRow_nil _ _ _ _) _ (iv c.start) rfl (by exact cell_new _ _ _ _ (by simp)) rfl (by decide) (by decide) (Nat.zero_le _) ?_; intro g cap w2 ho hg hw; have d2 := start_d HN.out hd ne ((Drawn.refl _).drew) hg; have R0 := RI.start HN.out hd hmk hpr hfo hfS hfd own ne ((Drawn.refl _).drew) ho hg hw; have k8 := d2.c8; have z8 := d2.fz 8; clear ho hg hw) | go_in)
  have O0 : OR c S x w c.n (init c) (.slice ba 0 bc) g cap _ := ⟨R0, PI.init hst, rfl, rfl⟩
  clear hmk hpr hfo hfS hfd R0 d2 k8 z8 c5 c6 c8 c10 fz m1 mf n1 n1' hst hst' HD
  go_loopg [11, 12] c.n (fun gk f o wr => ∃ s gs cs, o = .bool s.ok ∧ OR c S x w gk s f gs cs wr)
  case atStart => exact ⟨_, _, _, rfl, O0⟩
  case round =>
    obtain ⟨s, gs, cs, rfl, R, hPI, hrun, hgk⟩ := hrel
    have HR : Hid (run c gk s = fin c ∧ gk + s.F.length = c.n) := ⟨hrun, hgk⟩
    clear hrun hgk
    have c8 := R.d.c8
    by_cases hne : s.S = [] ∨ s.ok = false
    · have HF : Hid (fin c = s) := by show fin c = s; rw [← HR.out.1]; exact run_stop hne
      obtain ⟨fa', fc', rfl⟩ := owns_shape R.fo
      have c10 := R.d.c10
      have fz10 := R.d.fz 10
      have HRI : Hid (RI c S x s (.slice fa' s.F.length fc') gs cs w wr) := R
      by_cases hS : s.S = []
      · have hl : s.S.length = 0 := by rw [hS]; rfl
        clear R hPI hS hne
        go_wp2
        go_ret
        exact ⟨by simp [HF.out], fa', fc', _, by rw [HF.out]; exact HRI.out.done10.1, by rw [HF.out]; exact HRI.out.done10.2⟩
      · have hok : s.ok = false := by rcases hne with h | h; exact absurd h hS; exact h
        have hl : (0 : Int) < (s.S.length : Int) := by have := List.length_pos_iff.2 hS; omega
        clear R hPI hS hne
        go_wp2
        go_ret
        exact ⟨by simp [HF.out, hok], fa', fc', _, by rw [HF.out]; exact HRI.out.done10.1, by rw [HF.out]; exact HRI.out.done10.2⟩
    · have hS : s.S ≠ [] := fun e => hne (.inl e)
      have hok : s.ok = true := by cases h : s.ok; exact absurd (.inr h) hne; rfl
      clear hne
      obtain ⟨p, hp⟩ : ∃ p, s.S.getLast? = some p := by
        cases h : s.S.getLast? with
        | none => exact absurd (List.getLast?_eq_none_iff.1 h) hS
        | some p => exact ⟨p, rfl⟩
      have hl : 0 < s.S.length := List.length_pos_iff.2 hS
      have hlI : (0 : Int) < (s.S.length : Int) := by omega
      have hpS : p ∈ s.S := List.mem_of_getLast? hp
      have hpn : p < c.n := hPI.vlt p (hPI.sub p hpS)
      have hpnI : (p : Int) < (c.n : Int) := by omega
      have hvl := hPI.vlen
      have hcnt := hPI.cnt
      have ctop : wr.cell? ⟨gs, s.S.length - 1, none⟩ = some (.int .i64 (p : Int)) := by
        rw [R.stk (s.S.length - 1) (by omega)]
        have : s.S[s.S.length - 1]? = some p := by rw [← List.getLast?_eq_getElem?]; exact hp
        rw [List.getElem?_eq_getElem (by omega)] at this
        simp at this; rw [this]; rfl
      have fz8 := R.d.fz 8
      have hro := HW.out.kept R.kept
      obtain ⟨k', rfl⟩ : ∃ k', gk = k' + 1 := ⟨gk - 1, by have := HR.out.2; omega⟩
      have HP : Hid (s.S.getLast? = some p) := hp
      have HO : Hid (PI c s ∧ s.ok = true) := ⟨hPI, hok⟩
      have HRI : Hid (RI c S x s u11 gs cs w wr) := R
      have HW2 : Hid (RO c S bn bq bo A L C A' L' C' wr) := hro
      have hsl : (s.S.length : Int) ≤ 1048576 := by omega
      have hcs : s.S.length ≤ cs := by
        rcases R.st.2 with ⟨h, _⟩ | ⟨g, cap, cur, hv, hb, hg, hle, rest⟩
        · simp at h
        · simp at hv; omega
      clear hp hPI R hS hpS hro hcnt
      go_wp2
      go_quiet (fail)
      go_wp2
      go_region
      have hFl : s.F.length + 1 ≤ 1048576 := by have := HO.out.1.cnt; omega
      go_wp2_with (first | (at_builtin; refine wpList_append_one _ rfl (.tmp 91) (.tmp 93) 24 rfl 0 3 i0 (.int .i64 0) 8 Try.underlying24 HI.out.1 HI.out.2.1 HI.out.2.2.1 HI.out.2.2.2 rfl u11 s.F.length (s.F.map iv) rfl (by exact ((HRI.out.drawn ((Drawn.refl _).drewN _)).popped.alloc _).fo) _ (iv p) rfl (by exact cell_new0 _ _ _ _ (by simp)) rfl (by unfold maxLen; omega) (by omega) (Nat.zero_le _) ?_; intro g' cap' w1 ho hg hw; have R1 := ((HRI.out.drawn ((Drawn.refl _).drewN _)).popped.alloc _).listed ho hg hw; obtain ⟨k0, k1, a, k, kn, kp, hrow⟩ := after_list_bwd H0.out R1 HW.out hf hpn; clear ho hg hw) | go_in)
      have HRR : Hid (RI c S x (pop p s) (.slice (some ⟨g', 0, none⟩) (s.F.length + 1) cap') gs cs w w1) := R1
      clear R1 k0 k1 kn kp c8 ctop fz8 hcs hsl hFl hvl HW2 HRI hpnI
      rcases hrow with hnil | ⟨b, o, rfl, hbS, hcells⟩
      · have hnl : (c.nx p).length = 0 := by rw [hnil]; rfl
        have HNil : Hid (c.nx p = []) := hnil
        clear hnil
        refine wp_loop_rounds 1 ?_
        rw [rounds_succ]
        go_wp2
        go_roundg k'
        case measure => omega
        case rel => exact ⟨pop p s, gs, cs, by show Value.bool true = Value.bool s.ok; rw [hok], OR.next HR.out HP.out hok HRR.out (HO.out.1.pop HP.out) (by rw [step_of HP.out, HNil.out]; rfl)⟩
      · have HC : Hid (∀ j (h : j < (c.nx p).length), w.cell? ⟨b, o + j, none⟩ = some (.int .i64 ((c.nx p)[j] : Nat))) := hcells
        have hbig := HW.out.big p hpn
        clear hcells
        go_loopg [12, 113] (c.nx p).length (fun ik ov t wi => ∃ (j : Nat) (si : St) (gs' cs' : Nat), t = .int .i64 j ∧ ov = .bool true ∧ j + ik = (c.nx p).length ∧ Hid (inner c p ((c.nx p).drop j) si = step c s ∧ si.ok = true) ∧ Hid (RI c S x si (.slice (some ⟨g', 0, none⟩) (s.F.length + 1) cap') gs' cs' w wi ∧ PI c si))
        case atStart => exact ⟨0, pop p s, gs, cs, rfl, rfl, by simp, ⟨by rw [step_of HP.out]; rfl, hok⟩, HRR.out, HO.out.1.pop HP.out⟩
        case round =>
          obtain ⟨j, si, gs', cs', rfl, rfl, hjk, HIn, HRi⟩ := hrel
          by_cases hj : j < (c.nx p).length
          · obtain ⟨m, hm⟩ : ∃ m, (c.nx p)[j] = m := ⟨_, rfl⟩
            have hmn : m < c.n := HW.out.lt p hpn m (by rw [← hm]; exact List.getElem_mem hj)
            have hmnI : (m : Int) < (c.n : Int) := by omega
            have cm : wr.cell? ⟨b, o + j, none⟩ = some (.int .i64 (m : Int)) := by rw [← hm]; exact cell_kept HRi.out.1.kept (HC.out j hj) hbS
            have HM : Hid ((c.nx p)[j] = m) := hm
            clear hm
            have c5 := HRi.out.1.d.c5
            have c6 := HRi.out.1.d.c6
            have c7 := HRi.out.1.d.c7
            have c8 := HRi.out.1.d.c8
            have c2 := HRi.out.1.d.c2
            rw [H0.out.2.2] at c2
            have mm := HRi.out.1.mark hmn
            have mp := HRi.out.1.par hmn
            have mo := (HW.out.kept HRi.out.1.kept).ord m hmn
            have fm := HRi.out.1.mr.frozen m
            have fp := HRi.out.1.pr.frozen m
            have f8 := HRi.out.1.d.fz 8
            obtain ⟨mv, hmv⟩ : ∃ mv, markOf x.now x.M si.V m = mv := ⟨_, rfl⟩
            rw [hmv] at mm
            have HMV : Hid (markOf x.now x.M si.V m = mv) := hmv
            clear hmv
            · have Hh : Hid (hit c m = false) := by show hit c m = false; simp [hit, hf]
              obtain ⟨q, rfl⟩ : ∃ q, gk = q + 1 := ⟨gk - 1, by omega⟩
              by_cases hv : m ∈ si.V
              · have hq : (mv == x.now) = true := by rw [mark_of_mem HMV.out hv]; simp
                have HV : Hid (m ∈ si.V) := hv
                clear hv
                go_wp2
                go_quiet (fail)
                go_wp2
                go_roundg q
                case measure => omega
                case rel => exact ⟨j + 1, si, gs', cs', by go_num, rfl, by omega, ⟨in_seen hj HM.out HIn.out.1 Hh.out HV.out, HIn.out.2⟩, HRi.out.1.drawn ((Drawn.refl _).drewN _), HRi.out.2⟩
              · have hq : (mv == x.now) = false := by have := mark_of_not HMV.out hv (hMn m hmn); simpa using this
                have HV : Hid (m ∉ si.V) := hv
                clear hv
                by_cases hw : c.bound < c.ord m
                · have HW3 : Hid (win c m = true) := by show win c m = true; simp [win, hf, hw]
                  go_wp2
                  go_quiet (fail)
                  go_wp2
                  go_region
                  have n1 : ¬ x.bd = x.bm := ne.1
                  have n2 : ¬ x.bd = x.bp := ne.2.1
                  have hsl : si.S.length + 1 ≤ 1048576 := by have h1 := (HRi.out.2.push (p := p) hmn HV.out).vlen; have h2 := (HRi.out.2.push (p := p) hmn HV.out).cnt; simp [push] at h1 h2; omega
                  go_wp2_with (first | (at_builtin; refine wpList_append_one _ rfl (.tmp 191) (.tmp 193) 24 rfl 0 3 i0 (.int .i64 0) 8 Try.underlying24 HI.out.1 HI.out.2.1 HI.out.2.2.1 HI.out.2.2.2 rfl (.slice (some ⟨gs', 0, none⟩) si.S.length cs') si.S.length (si.S.map iv) rfl (by exact (((HRi.out.1.drawn ((Drawn.refl _).drewN _)).marked p m).alloc _).st) _ (iv m) rfl (by exact cell_new0 _ _ _ _ (by simp)) rfl (by unfold maxLen; omega) (by omega) (Nat.zero_le _) ?_; intro g2 cap2 w3 ho hg hw; have R2 := (((HRi.out.1.drawn ((Drawn.refl _).drewN _)).marked p m).alloc _).pushed ho hg hw; obtain ⟨z8, y8⟩ := (((HRi.out.1.drawn ((Drawn.refl _).drewN _)).marked p m).alloc _).before8 hg; clear ho hg hw) | go_in)
                  go_roundg q
                  case measure => omega
                  case rel => exact ⟨j + 1, push p m si, g2, cap2, by go_num, rfl, by omega, ⟨in_push hj HM.out HIn.out.1 Hh.out HV.out HW3.out, HIn.out.2⟩, R2, HRi.out.2.push hmn HV.out⟩
                · have HW3 : Hid (win c m = false) := by show win c m = false; simp [win, hf, hw]
                  go_wp2
                  go_quiet (fail)
                  go_wp2
                  go_roundg q
                  case measure => omega
                  case rel => exact ⟨j + 1, si, gs', cs', by go_num, rfl, by omega, ⟨in_out hj HM.out HIn.out.1 Hh.out HV.out HW3.out, HIn.out.2⟩, HRi.out.1.drawn ((Drawn.refl _).drewN _), HRi.out.2⟩
          · go_wp2
            go_roundg k'
            case measure => omega
            case rel => exact ⟨si, gs', cs', by rw [HIn.out.2], OR.next HR.out HP.out hok HRi.out.1 HRi.out.2 (in_end hj HIn.out.1)⟩

end Go.Proofs.Qxb6604039a
