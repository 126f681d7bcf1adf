/-
  zzCloneGraph, zzReachDomain, the byte counts.
-/
import Derived.Test.Qxb6604039aLeaf
namespace Go.Proofs.Qxb6604039a
open Go.RowKit

/-- a slice of slices of integers that is only read -/
def GraphAt (w : World) (a : Option Addr) (n : Nat) (A : Nat → Option Addr) (L C : Nat → Nat) (X : Nat → Nat → Int) : Prop :=
  (n ≠ 0 → ∃ b o, a = some ⟨b, o, none⟩ ∧ ∀ i, i < n → w.cell? ⟨b, o + i, none⟩ = some (.slice (A i) (L i) (C i))) ∧ ∀ i, i < n → IntsAt w (A i) (L i) (X i)

theorem GraphAt.kept {w w' : World} {a : Option Addr} {n : Nat} {A : Nat → Option Addr} {L C : Nat → Nat} {X : Nat → Nat → Int} (h : GraphAt w a n A L C X) (k : Kept Nowhere w w') : GraphAt w' a n A L C X :=
  ⟨fun hn => by
    obtain ⟨b, o, ha, hc⟩ := h.1 hn
    exact ⟨b, o, ha, fun i hi => k.nothing_cell (fun _ h => h) (hc i hi)⟩, fun i hi => (h.2 i hi).kept k⟩

/-- a row of a clone: its cells in blocks from N on -/
def RowNew (N : Nat) (w : World) (v : Value) (n : Nat) (f : Nat → Int) : Prop :=
  ∃ a k, v = .slice a n k ∧ (n ≠ 0 → ∃ g, a = some ⟨g, 0, none⟩ ∧ N ≤ g ∧ ∀ j, j < n → w.cell? ⟨g, j, none⟩ = some (.int .i64 (f j)))

theorem RowNew.kept {S : Nat → Prop} {N : Nat} {w w' : World} {v : Value} {n : Nat} {f : Nat → Int} (h : RowNew N w v n f) (k : Kept S w w') (hS : ∀ i, S i → i < N) : RowNew N w' v n f := by
  obtain ⟨a, c, hv, hc⟩ := h
  refine ⟨a, c, hv, fun hn => ?_⟩
  obtain ⟨g, ha, hg, hcell⟩ := hc hn
  exact ⟨g, ha, hg, fun j hj => cell_kept k (hcell j hj) (fun s => by have := hS _ s; omega)⟩

theorem Cloned.row {a : Option Addr} {n : Nat} {f : Nat → Int} {v : Value} {w w' : World} (h : Cloned a n f v w w') (hn : n ≠ 0 → a ≠ none) : RowNew w.heap.size w' v n f := by
  rcases h.2 with ⟨ha, rfl⟩ | ⟨_, g, hg, rfl, hr⟩
  · have : n = 0 := Classical.byContradiction fun h => hn h ha
    subst this
    exact ⟨_, _, rfl, fun h => absurd rfl h⟩
  · exact ⟨_, _, rfl, fun _ => ⟨g, rfl, hg, fun j hj => hr.cell hj⟩⟩

theorem IntsAt.some {w : World} {a : Option Addr} {n : Nat} {f : Nat → Int} (h : IntsAt w a n f) (hn : n ≠ 0) : a ≠ none := by
  obtain ⟨b, o, ha, _⟩ := h hn
  rw [ha]; simp

set_option maxRecDepth 100000 in
set_option maxHeartbeats 400000 in
theorem cloneGraph (b o k n : Nat) (A : Nat → Option Addr) (L C : Nat → Nat) (X : Nat → Nat → Int) (w : World) (h : GraphAt w (some ⟨b, o, none⟩) n A L C X) (hb : n ≤ 1048576) (hL : ∀ i, i < n → L i ≤ 1048576) :
    Calls Try.prog 8 #[.slice (some ⟨b, o, none⟩) n k] w fun e w' => e = .returned (.slice (some ⟨w.heap.size, 0, none⟩) n n) ∧ Kept Nowhere w w' ∧ ∃ R, w'.rowIs w.heap.size 24 n R ∧ ∀ i, i < n → RowNew (w.heap.size + 1) w' (R i) (L i) (X i) := by
  have he := fun W => Lib.run_eql_slice_nil (P := Try.prog) W 22 24 (some ⟨b, o, none⟩) n k 0 0 Try.underlying22
  have hmk := run_make_row' (P := Try.prog) 22 24 (.slice none 0 0) 24 Try.underlying22 Try.info24 rfl .i64 .i64 n (by omega) (by omega)
  have HX : Hid (GraphAt w (some ⟨b, o, none⟩) n A L C X ∧ ∀ i, i < n → L i ≤ 1048576) := ⟨h, hL⟩
  clear h hL
  go_enter Try.func8, Try.ntmps8
  go_wp2
  go_loopg [4] n (fun gk i wr => ∃ j : Nat, j + gk = n ∧ i = .int .i64 j ∧ Hid (Kept Nowhere w wr ∧ w.heap.size + 1 ≤ wr.heap.size ∧ ∃ R : Nat → Value, wr.rowIs w.heap.size 24 n (fun t => if t < j then R t else .slice none 0 0) ∧ ∀ i, i < j → RowNew (w.heap.size + 1) wr (R i) (L i) (X i)))
  case atStart => exact ⟨0, by omega, rfl, (Kept.refl _ _).alloc _, by simp, fun _ => .slice none 0 0, (World.rowIs_made w (.slice none 0 0) n 24).congr (fun i _ => by simp), fun i hi => by omega⟩
  case round =>
    obtain ⟨j, hjk, rfl, HR⟩ := hrel
    by_cases hj : j < n
    · obtain ⟨b', o', hb', hc⟩ := HX.out.1.1 (by omega)
      simp only [Option.some.injEq, Addr.mk.injEq, and_true] at hb'
      obtain ⟨rfl, rfl⟩ := hb'
      have hrow := (HX.out.1.2 j hj).kept HR.out.1
      have hc' : wr.cell? ⟨b, o + j, none⟩ = some (.slice (A j) (L j) (C j)) := HR.out.1.nothing_cell (fun _ h => h) (hc j hj)
      have CL : Hid (∀ (_ : Unit), Calls Try.prog 16 #[.slice (A j) (L j) (C j)] wr fun e w' => ∃ v, e = .returned v ∧ Cloned (A j) (L j) (X j) v wr w') := fun _ => cloneInts (A j) (C j) (L j) (X j) wr hrow (HX.out.2 j hj)
      have HA : Hid (L j ≠ 0 → A j ≠ none) := (HX.out.1.2 j hj).some
      obtain ⟨q, rfl⟩ : ∃ q, gk = q + 1 := ⟨gk - 1, by omega⟩
      clear hc hrow he hmk
      go_wp2_with (go_at_call 16; refine (CL.out ()).mono ?_; rintro e w1 ⟨v, rfl, hcl⟩; obtain ⟨a1, k1, rfl, hnew⟩ := hcl.row HA.out; obtain ⟨R, hR, hRn⟩ := HR.out.2.2; have hR1 := hcl.1.row hR (fun h => h); have g1 := hR1.cell hj; have z1 := hR1.frozen j)
      go_roundg q
      case measure => omega
      case rel =>
        have hsz := HR.out.2.1
        have hs1 := hcl.1.size
        refine ⟨j + 1, by omega, by go_num, (HR.out.1.trans hcl.1).setCell (.inr (Nat.le_refl _)) _, by rw [Deep.nblk_setCell]; omega, fun t => if t = j then .slice a1 (L j) k1 else R t, (hR1.set j _).congr (fun i hi => ?_), fun i hi => ?_⟩
        · by_cases e : i = j
          · subst e; simp
          · simp only [if_neg e]; by_cases h1 : i < j
            · rw [if_pos h1, if_pos (by omega)]
            · rw [if_neg h1, if_neg (by omega)]
        · have kS : Kept (fun k => k = w.heap.size) w1 (w1.setCell ⟨w.heap.size, j, none⟩ (.slice a1 (L j) k1)) := (Kept.refl (fun k => k = w.heap.size) w1).setCell (a := ⟨w.heap.size, j, none⟩) (.inl rfl) _
          by_cases e : i = j
          · subst e
            simp only [if_true]
            refine RowNew.kept (S := fun k => k = w.heap.size) ?_ kS (fun i hi => by omega)
            refine ⟨a1, k1, rfl, fun hn => ?_⟩
            obtain ⟨g, ha, hg, hcell⟩ := hnew hn
            exact ⟨g, ha, by omega, hcell⟩
          · simp only [if_neg e]
            exact ((hRn i (by omega)).kept hcl.1 (fun _ h => h.elim)).kept kS (fun i hi => by omega)
    · go_wp2
      go_ret
      obtain ⟨R, hR, hRn⟩ := HR.out.2.2
      exact ⟨rfl, HR.out.1, R, hR.congr (fun i hi => by rw [if_pos (by omega)]), fun i hi => hRn i (by omega)⟩

/-- the call answers a Bool of which D holds -/
def Answers (D : Bool → Prop) (e : Ending) : Prop := ∃ r, e = .returned (.bool r) ∧ D r
theorem answers {D : Bool → Prop} {r : Bool} {e : Ending} (h : e = .returned (.bool r)) (hd : D r) : Answers D e := ⟨r, h, hd⟩

/-- what zzReachDomain asks, of the walked direction -/
def DomOK (n sn pn mn qn : Nat) (stamp start : Int) (M : Nat → Int) (L : Nat → Nat) (X : Nat → Nat → Int) : Prop :=
  sn = n ∧ pn = n ∧ mn = n ∧ qn = n ∧ 0 ≤ start ∧ start < n ∧ (∀ i, i < n → M i ≤ stamp) ∧ ∀ i, i < n → ∀ j, j < L i → 0 ≤ X i j ∧ X i j < n

set_option maxRecDepth 100000 in
set_option maxHeartbeats 1000000 in
theorem domain_core_fwd (sa oa ma qa : Option Addr) (pv : Value) (n sk ok mk qk pk : Nat) (pa : Option Addr) (hpv : pv = .slice pa n pk) (stamp start : Int) (M : Nat → Int) (A : Nat → Option Addr) (L C : Nat → Nat) (X : Nat → Nat → Int) (w : World)
    (hs : GraphAt w sa n A L C X) (hm : IntsAt w ma n M) (hb : n ≤ 1048576) (hL : ∀ i, i < n → L i ≤ 1048576) (h01 : 0 ≤ start) (h02 : start < n) :
    Calls Try.prog 21 #[.slice sa n sk, pv, .slice oa n ok, .int .i64 stamp, .slice ma n mk, .slice qa n qk, .int .i64 start, .bool true] w fun e w' => Answers (fun r => r = true → DomOK n n n n n stamp start M L X) e ∧ w' = w := by
  subst hpv
  have HX : Hid (GraphAt w sa n A L C X ∧ IntsAt w ma n M ∧ ∀ i, i < n → L i ≤ 1048576) := ⟨hs, hm, hL⟩
  clear hs hm hL
  go_enter Try.func21, Try.ntmps21
  go_wp2
  go_loopg [18] n (fun gk i wr => ∃ j : Nat, j + gk = n ∧ i = .int .i64 j ∧ wr = w ∧ Hid ((∀ i, i < j → M i ≤ stamp) ∧ ∀ i, i < j → ∀ t, t < L i → 0 ≤ X i t ∧ X i t < n))
  case atStart => exact ⟨0, by omega, rfl, rfl, fun i hi => by omega, fun i hi => by omega⟩
  case round =>
    obtain ⟨j, hjk, rfl, rfl, HR⟩ := hrel
    by_cases hj : j < n
    · obtain ⟨b, o, rfl, hc⟩ := HX.out.1.1 (by omega)
      obtain ⟨b2, o2, rfl, hc2⟩ := HX.out.2.1 (by omega)
      have hcm := hc2 j hj
      have CN : Hid (∀ (_ : Unit), Calls Try.prog 22 #[.slice (some ⟨b, o, none⟩) n sk, .slice pa n pk, .int .i64 (j : Nat), .bool true] wr fun e w' => e = .returned (.slice (A j) (L j) (C j)) ∧ w' = wr) := fun _ => next_fwd b o n sk (.slice pa n pk) j _ wr hj ⟨_, _, _, rfl⟩ (hc j hj)
      have hjI : (j : Int) < (n : Int) := by omega
      have hLj := HX.out.2.2 j hj
      obtain ⟨a, ha⟩ : ∃ a, A j = a := ⟨_, rfl⟩
      obtain ⟨l, hl⟩ : ∃ l, L j = l := ⟨_, rfl⟩
      obtain ⟨k, hk⟩ : ∃ k, C j = k := ⟨_, rfl⟩
      have hrow := HX.out.1.2 j hj
      rw [ha, hl] at hrow
      rw [ha, hl, hk] at CN
      rw [hl] at hLj
      have HL : Hid (L j = l) := hl
      have HRow : Hid (IntsAt wr a l (X j)) := hrow
      obtain ⟨q, rfl⟩ : ∃ q, gk = q + 1 := ⟨gk - 1, by omega⟩
      clear ha hl hk hrow hc hc2
      by_cases hM : M j ≤ stamp
      · go_wp2_with (go_at_call 22; refine (CN.out ()).mono ?_; rintro e w1 ⟨rfl, rfl⟩)
        go_loopg [20] l (fun ik i wi => ∃ t : Nat, t + ik = l ∧ i = .int .i64 t ∧ wi = w1 ∧ Hid (∀ u, u < t → 0 ≤ X j u ∧ X j u < n))
        case atStart => exact ⟨0, by omega, rfl, rfl, fun i hi => by omega⟩
        case round =>
          obtain ⟨t, htk, rfl, rfl, HT⟩ := hrel
          by_cases ht : t < l
          · obtain ⟨b3, o3, rfl, hc3⟩ := HRow.out (by omega)
            have hct := hc3 t ht
            obtain ⟨z, hz⟩ : ∃ z, X j t = z := ⟨_, rfl⟩
            rw [hz] at hct
            have HZ : Hid (X j t = z) := hz
            have htI : (t : Int) < (l : Int) := by omega
            obtain ⟨q2, rfl⟩ : ∃ q, gk = q + 1 := ⟨gk - 1, by omega⟩
            clear hz hc3
            by_cases hz1 : 0 ≤ z ∧ z < n
            · obtain ⟨hz1, hz2⟩ := hz1
              go_wp2
              go_roundg q2
              case measure => omega
              case rel =>
                refine ⟨t + 1, by omega, by go_num, rfl, fun u hu => ?_⟩
                by_cases e : u = t
                · subst e; rw [HZ.out]; exact ⟨hz1, hz2⟩
                · exact HT.out u (by omega)
            · have hz2 : z < 0 ∨ (n : Int) ≤ z := by omega
              clear hz1
              rcases hz2 with hz2 | hz2
              all_goals
                go_wp2
                go_ret
                exact ⟨answers rfl (fun h => by simp at h), rfl⟩
          · go_wp2
            go_roundg q
            case measure => omega
            case rel =>
              refine ⟨j + 1, by omega, by go_num, rfl, fun i hi => ?_, fun i hi u hu => ?_⟩
              · by_cases e : i = j
                · subst e; exact hM
                · exact HR.out.1 i (by omega)
              · by_cases e : i = j
                · subst e; rw [HL.out] at hu; exact HT.out u (by omega)
                · exact HR.out.2 i (by omega) u hu
      · have hM' : stamp < M j := by omega
        go_wp2
        go_ret
        exact ⟨answers rfl (fun h => by simp at h), rfl⟩
    · go_wp2
      go_ret
      exact ⟨answers rfl (fun _ => ⟨rfl, rfl, rfl, rfl, h01, h02, fun i hi => HR.out.1 i (by omega), fun i hi => HR.out.2 i (by omega)⟩), rfl⟩

set_option maxRecDepth 100000 in
set_option maxHeartbeats 1000000 in
theorem domain_fwd (sa pa oa ma qa : Option Addr) (sn sk pn pk n ok mn mk qn qk : Nat) (stamp start : Int) (M : Nat → Int) (A : Nat → Option Addr) (L C : Nat → Nat) (X : Nat → Nat → Int) (w : World)
    (hs : GraphAt w sa sn A L C X) (hm : IntsAt w ma mn M) (hb : n ≤ 1048576) (hL : ∀ i, i < sn → L i ≤ 1048576) :
    Calls Try.prog 21 #[.slice sa sn sk, .slice pa pn pk, .slice oa n ok, .int .i64 stamp, .slice ma mn mk, .slice qa qn qk, .int .i64 start, .bool true] w fun e w' => Answers (fun r => r = true → DomOK n sn pn mn qn stamp start M L X) e ∧ w' = w := by
  by_cases hall : sn = n ∧ pn = n ∧ mn = n ∧ qn = n
  · obtain ⟨e1, e2, e3, e4⟩ := hall
    rw [e1, e2, e3, e4]
    rw [e1] at hs hL
    rw [e3] at hm
    clear e1 e2 e3 e4
    by_cases h0 : 0 ≤ start ∧ start < n
    · exact domain_core_fwd sa oa ma qa _ n sk ok mk qk pk pa rfl stamp start M A L C X w hs hm hb hL h0.1 h0.2
    · have h0' : start < 0 ∨ (n : Int) ≤ start := by omega
      clear hs hm hL h0
      rcases h0' with h0 | h0
      all_goals
        go_enter Try.func21, Try.ntmps21
        go_wp2
        go_ret
        exact ⟨answers rfl (fun h => by simp at h), rfl⟩
  · clear hs hm hL
    by_cases e1 : sn = n
    · subst e1
      by_cases e2 : pn = sn
      · subst e2
        by_cases e3 : mn = pn
        · subst e3
          have e4 : ((qn : Int) != (mn : Int)) = true := by simp at hall ⊢; omega
          clear hall
          go_enter Try.func21, Try.ntmps21
          go_wp2
          go_ret
          exact ⟨answers rfl (fun h => by simp at h), rfl⟩
        · have e4 : ((mn : Int) != (pn : Int)) = true := by simp; omega
          clear hall
          go_enter Try.func21, Try.ntmps21
          go_wp2
          go_ret
          exact ⟨answers rfl (fun h => by simp at h), rfl⟩
      · have e4 : ((pn : Int) != (sn : Int)) = true := by simp; omega
        clear hall
        go_enter Try.func21, Try.ntmps21
        go_wp2
        go_ret
        exact ⟨answers rfl (fun h => by simp at h), rfl⟩
    · have e4 : ((sn : Int) != (n : Int)) = true := by simp; omega
      clear hall
      go_enter Try.func21, Try.ntmps21
      go_wp2
      go_ret
      exact ⟨answers rfl (fun h => by simp at h), rfl⟩

set_option maxRecDepth 100000 in
set_option maxHeartbeats 1000000 in
theorem domain_core_bwd (pa oa ma qa : Option Addr) (sv : Value) (n pk ok mk qk sk : Nat) (sa : Option Addr) (hsv : sv = .slice sa n sk) (stamp start : Int) (M : Nat → Int) (A : Nat → Option Addr) (L C : Nat → Nat) (X : Nat → Nat → Int) (w : World)
    (hs : GraphAt w pa n A L C X) (hm : IntsAt w ma n M) (hb : n ≤ 1048576) (hL : ∀ i, i < n → L i ≤ 1048576) (h01 : 0 ≤ start) (h02 : start < n) :
    Calls Try.prog 21 #[sv, .slice pa n pk, .slice oa n ok, .int .i64 stamp, .slice ma n mk, .slice qa n qk, .int .i64 start,   .bool false] w fun e w' => Answers (fun r => r = true → DomOK n n n n n stamp start M L X) e ∧ w' = w := by
  subst hsv
  have HX : Hid (GraphAt w pa n A L C X ∧ IntsAt w ma n M ∧ ∀ i, i < n → L i ≤ 1048576) := ⟨hs, hm, hL⟩
  clear hs hm hL
  go_enter Try.func21, Try.ntmps21
  go_wp2
  go_loopg [18] n (fun gk i wr => ∃ j : Nat, j + gk = n ∧ i = .int .i64 j ∧ wr = w ∧ Hid ((∀ i, i < j → M i ≤ stamp) ∧ ∀ i, i < j → ∀ t, t < L i → 0 ≤ X i t ∧ X i t < n))
  case atStart => exact ⟨0, by omega, rfl, rfl, fun i hi => by omega, fun i hi => by omega⟩
  case round =>
    obtain ⟨j, hjk, rfl, rfl, HR⟩ := hrel
    by_cases hj : j < n
    · obtain ⟨b, o, rfl, hc⟩ := HX.out.1.1 (by omega)
      obtain ⟨b2, o2, rfl, hc2⟩ := HX.out.2.1 (by omega)
      have hcm := hc2 j hj
      have CN : Hid (∀ (_ : Unit), Calls Try.prog 22 #[.slice sa n sk, .slice (some ⟨b, o, none⟩) n pk, .int .i64 (j : Nat),   .bool false] wr fun e w' => e = .returned (.slice (A j) (L j) (C j)) ∧ w' = wr) := fun _ => next_bwd b o n pk (.slice sa n sk) j _ wr hj ⟨_, _, _, rfl⟩ (hc j hj)
      have hjI : (j : Int) < (n : Int) := by omega
      have hLj := HX.out.2.2 j hj
      obtain ⟨a, ha⟩ : ∃ a, A j = a := ⟨_, rfl⟩
      obtain ⟨l, hl⟩ : ∃ l, L j = l := ⟨_, rfl⟩
      obtain ⟨k, hk⟩ : ∃ k, C j = k := ⟨_, rfl⟩
      have hrow := HX.out.1.2 j hj
      rw [ha, hl] at hrow
      rw [ha, hl, hk] at CN
      rw [hl] at hLj
      have HL : Hid (L j = l) := hl
      have HRow : Hid (IntsAt wr a l (X j)) := hrow
      obtain ⟨q, rfl⟩ : ∃ q, gk = q + 1 := ⟨gk - 1, by omega⟩
      clear ha hl hk hrow hc hc2
      by_cases hM : M j ≤ stamp
      · go_wp2_with (go_at_call 22; refine (CN.out ()).mono ?_; rintro e w1 ⟨rfl, rfl⟩)
        go_loopg [20] l (fun ik i wi => ∃ t : Nat, t + ik = l ∧ i = .int .i64 t ∧ wi = w1 ∧ Hid (∀ u, u < t → 0 ≤ X j u ∧ X j u < n))
        case atStart => exact ⟨0, by omega, rfl, rfl, fun i hi => by omega⟩
        case round =>
          obtain ⟨t, htk, rfl, rfl, HT⟩ := hrel
          by_cases ht : t < l
          · obtain ⟨b3, o3, rfl, hc3⟩ := HRow.out (by omega)
            have hct := hc3 t ht
            obtain ⟨z, hz⟩ : ∃ z, X j t = z := ⟨_, rfl⟩
            rw [hz] at hct
            have HZ : Hid (X j t = z) := hz
            have htI : (t : Int) < (l : Int) := by omega
            obtain ⟨q2, rfl⟩ : ∃ q, gk = q + 1 := ⟨gk - 1, by omega⟩
            clear hz hc3
            by_cases hz1 : 0 ≤ z ∧ z < n
            · obtain ⟨hz1, hz2⟩ := hz1
              go_wp2
              go_roundg q2
              case measure => omega
              case rel =>
                refine ⟨t + 1, by omega, by go_num, rfl, fun u hu => ?_⟩
                by_cases e : u = t
                · subst e; rw [HZ.out]; exact ⟨hz1, hz2⟩
                · exact HT.out u (by omega)
            · have hz2 : z < 0 ∨ (n : Int) ≤ z := by omega
              clear hz1
              rcases hz2 with hz2 | hz2
              all_goals
                go_wp2
                go_ret
                exact ⟨answers rfl (fun h => by simp at h), rfl⟩
          · go_wp2
            go_roundg q
            case measure => omega
            case rel =>
              refine ⟨j + 1, by omega, by go_num, rfl, fun i hi => ?_, fun i hi u hu => ?_⟩
              · by_cases e : i = j
                · subst e; exact hM
                · exact HR.out.1 i (by omega)
              · by_cases e : i = j
                · subst e; rw [HL.out] at hu; exact HT.out u (by omega)
                · exact HR.out.2 i (by omega) u hu
      · have hM' : stamp < M j := by omega
        go_wp2
        go_ret
        exact ⟨answers rfl (fun h => by simp at h), rfl⟩
    · go_wp2
      go_ret
      exact ⟨answers rfl (fun _ => ⟨rfl, rfl, rfl, rfl, h01, h02, fun i hi => HR.out.1 i (by omega), fun i hi => HR.out.2 i (by omega)⟩), rfl⟩

set_option maxRecDepth 100000 in
set_option maxHeartbeats 1000000 in
theorem domain_bwd (sa pa oa ma qa : Option Addr) (sn sk pn pk n ok mn mk qn qk : Nat) (stamp start : Int) (M : Nat → Int) (A : Nat → Option Addr) (L C : Nat → Nat) (X : Nat → Nat → Int) (w : World)
    (hs : GraphAt w pa pn A L C X) (hm : IntsAt w ma mn M) (hb : n ≤ 1048576) (hL : ∀ i, i < pn → L i ≤ 1048576) :
    Calls Try.prog 21 #[.slice sa sn sk, .slice pa pn pk, .slice oa n ok, .int .i64 stamp, .slice ma mn mk, .slice qa qn qk, .int .i64 start,   .bool false] w fun e w' => Answers (fun r => r = true → DomOK n sn pn mn qn stamp start M L X) e ∧ w' = w := by
  by_cases hall : sn = n ∧ pn = n ∧ mn = n ∧ qn = n
  · obtain ⟨e1, e2, e3, e4⟩ := hall
    rw [e1, e2, e3, e4]
    rw [e2] at hs hL
    rw [e3] at hm
    clear e1 e2 e3 e4
    by_cases h0 : 0 ≤ start ∧ start < n
    · exact domain_core_bwd pa oa ma qa _ n pk ok mk qk sk sa rfl stamp start M A L C X w hs hm hb hL h0.1 h0.2
    · have h0' : start < 0 ∨ (n : Int) ≤ start := by omega
      clear hs hm hL h0
      rcases h0' with h0 | h0
      all_goals
        go_enter Try.func21, Try.ntmps21
        go_wp2
        go_ret
        exact ⟨answers rfl (fun h => by simp at h), rfl⟩
  · clear hs hm hL
    by_cases e1 : sn = n
    · subst e1
      by_cases e2 : pn = sn
      · subst e2
        by_cases e3 : mn = pn
        · subst e3
          have e4 : ((qn : Int) != (mn : Int)) = true := by simp at hall ⊢; omega
          clear hall
          go_enter Try.func21, Try.ntmps21
          go_wp2
          go_ret
          exact ⟨answers rfl (fun h => by simp at h), rfl⟩
        · have e4 : ((mn : Int) != (pn : Int)) = true := by simp; omega
          clear hall
          go_enter Try.func21, Try.ntmps21
          go_wp2
          go_ret
          exact ⟨answers rfl (fun h => by simp at h), rfl⟩
      · have e4 : ((pn : Int) != (sn : Int)) = true := by simp; omega
        clear hall
        go_enter Try.func21, Try.ntmps21
        go_wp2
        go_ret
        exact ⟨answers rfl (fun h => by simp at h), rfl⟩
    · have e4 : ((sn : Int) != (n : Int)) = true := by simp; omega
      clear hall
      go_enter Try.func21, Try.ntmps21
      go_wp2
      go_ret
      exact ⟨answers rfl (fun h => by simp at h), rfl⟩

end Go.Proofs.Qxb6604039a
