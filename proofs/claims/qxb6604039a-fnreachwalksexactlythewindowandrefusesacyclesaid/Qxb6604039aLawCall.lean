/-
  ZZReach as the laws call it.
-/
import Derived.Test.Qxb6604039aLawMem
namespace Go.Proofs.Qxb6604039a
open Go.RowKit

theorem row_ints {w : World} {g n : Nat} {f : Nat → Int} (h : w.rowIs g 3 n (fun i => .int .i64 (f i))) : IntsAt w (some ⟨g, 0, none⟩) n f :=
  fun _ => ⟨g, 0, rfl, fun j hj => by rw [Nat.zero_add]; exact h.cell hj⟩

structure After (n Fl : Nat) (c : Ctx) (S : Nat → Prop) (bm bp : Nat) (now : Int) (M P : Nat → Int) (a : Option Addr) (k : Nat) (w w' : World) : Prop where
  mr : w'.rowIs bm 3 n (fun i => .int .i64 (markOf now M (fin c).V i))
  pr : w'.rowIs bp 3 n (fun i => .int .i64 (parOf P (fin c).ws i))
  fo : w'.ownsRow 0 3 1 (.slice a Fl k) Fl ((fin c).F.map iv)
  fvS : ∀ j, (Value.slice a Fl k).ownBlock = some j → S j ∨ w.heap.size ≤ j
  fd : (Value.slice a Fl k).ownBlock ≠ some bm ∧ (Value.slice a Fl k).ownBlock ≠ some bp
  kept : Kept S w w'

theorem zz_call_fwd {c : Ctx} {n st : Nat} {e bound : Int} {okb : Bool} {Fl : Nat} (hcn : c.n = n) (hcs : c.start = st) (hce : c.e = e) (hcb : c.bound = bound) (hcf : c.fwd = true) (hok : (fin c).ok = okb) (hFl : (fin c).F.length = Fl)
    {S : Nat → Prop} {bm bp bs bq bo : Nat} {A : Nat → Option Addr} {L C : Nat → Nat} {A' : Nat → Option Addr} {L' C' : Nat → Nat} (stamp : Int) (fa : Option Addr) (fl fc : Nat) (ba : Option Addr) (bl bc : Nat) {fx : List Value} {M P : Nat → Int} (w : World)
    (hrz : RZ c S bs bq bo A L C A' L' C' w)
    (hmk : w.rowIs bm 3 n (fun i => .int .i64 (M i))) (hpr : w.rowIs bp 3 n (fun i => .int .i64 (P i)))
    (hfo : w.ownsRow 0 3 1 (.slice fa fl fc) fl fx) (hfS : ∀ k, (Value.slice fa fl fc).ownBlock = some k → S k)
    (hfd : (Value.slice fa fl fc).ownBlock ≠ some bm ∧ (Value.slice fa fl fc).ownBlock ≠ some bp)
    (own : S bm ∧ S bp) (ne : bm ≠ bp)
    (hMn : ∀ i, i < n → M i ≤ stamp) (hst : st < n) (hs1 : -9223372036854775808 ≤ stamp) (hs2 : stamp < 9223372036854775807) :
    Calls Try.prog 23 #[.slice (some ⟨bs, 0, none⟩) n n, .slice (some ⟨bq, 0, none⟩) n n, .slice (some ⟨bo, 0, none⟩) n n, .int .i64 stamp, .slice (some ⟨bm, 0, none⟩) n n, .slice (some ⟨bp, 0, none⟩) n n, .slice fa fl fc, .slice ba bl bc, .int .i64 (st : Nat), .int .i64 e, .int .i64 bound, .bool true] w fun e w' => ∃ a k, e = .returned (.tuple #[.bool okb, .int .i64 (stamp + 1), .slice (some ⟨bm, 0, none⟩) n n, .slice (some ⟨bp, 0, none⟩) n n, .slice a Fl k, .slice ba bl bc]) ∧ After n Fl c S bm bp (stamp + 1) M P a k w w' := by
  subst hcn hcs hce hcb hok hFl
  refine (zzreach_fwd c S ⟨0, bm, bp, undef, undef, undef, undef, undef, stamp + 1, M, P⟩ bs bq bo A L C A' L' C' stamp fa fl fc ba bl bc fx w hrz rfl hmk hpr hfo hfS hfd own ne (fun i hi => by show M i < stamp + 1; have := hMn i hi; omega) hst hs1 hs2 hcf).mono ?_
  rintro e w' ⟨a, k, he, hd⟩
  exact ⟨a, k, he, hd.mr, hd.pr, hd.fo, hd.fvS, hd.fd, hd.kept⟩

theorem zz_call_bwd {c : Ctx} {n st : Nat} {e bound : Int} {okb : Bool} {Fl : Nat} (hcn : c.n = n) (hcs : c.start = st) (hce : c.e = e) (hcb : c.bound = bound) (hcf : c.fwd = false) (hok : (fin c).ok = okb) (hFl : (fin c).F.length = Fl)
    {S : Nat → Prop} {bm bp bs bq bo : Nat} {A : Nat → Option Addr} {L C : Nat → Nat} {A' : Nat → Option Addr} {L' C' : Nat → Nat} (stamp : Int) (fa : Option Addr) (fl fc : Nat) (ba : Option Addr) (bl bc : Nat) {fx : List Value} {M P : Nat → Int} (w : World)
    (hrz : RZ c S bs bq bo A L C A' L' C' w)
    (hmk : w.rowIs bm 3 n (fun i => .int .i64 (M i))) (hpr : w.rowIs bp 3 n (fun i => .int .i64 (P i)))
    (hfo : w.ownsRow 0 3 1 (.slice ba bl bc) bl fx) (hfS : ∀ k, (Value.slice ba bl bc).ownBlock = some k → S k)
    (hfd : (Value.slice ba bl bc).ownBlock ≠ some bm ∧ (Value.slice ba bl bc).ownBlock ≠ some bp)
    (own : S bm ∧ S bp) (ne : bm ≠ bp)
    (hMn : ∀ i, i < n → M i ≤ stamp) (hst : st < n) (hs1 : -9223372036854775808 ≤ stamp) (hs2 : stamp < 9223372036854775807) :
    Calls Try.prog 23 #[.slice (some ⟨bs, 0, none⟩) n n, .slice (some ⟨bq, 0, none⟩) n n, .slice (some ⟨bo, 0, none⟩) n n, .int .i64 stamp, .slice (some ⟨bm, 0, none⟩) n n, .slice (some ⟨bp, 0, none⟩) n n, .slice fa fl fc, .slice ba bl bc, .int .i64 (st : Nat), .int .i64 e, .int .i64 bound, .bool false] w fun e w' => ∃ a k, e = .returned (.tuple #[.bool okb, .int .i64 (stamp + 1), .slice (some ⟨bm, 0, none⟩) n n, .slice (some ⟨bp, 0, none⟩) n n, .slice fa fl fc, .slice a Fl k]) ∧ After n Fl c S bm bp (stamp + 1) M P a k w w' := by
  subst hcn hcs hce hcb hok hFl
  refine (zzreach_bwd c S ⟨0, bm, bp, undef, undef, undef, undef, undef, stamp + 1, M, P⟩ bs bq bo A L C A' L' C' stamp fa fl fc ba bl bc fx w hrz rfl hmk hpr hfo hfS hfd own ne (fun i hi => by show M i < stamp + 1; have := hMn i hi; omega) hst hs1 hs2 hcf).mono ?_
  rintro e w' ⟨a, k, he, hd⟩
  exact ⟨a, k, he, hd.mr, hd.pr, hd.fo, hd.fvS, hd.fd, hd.kept⟩

/-- what the second walk leaves in the marks and the parents -/
theorem mark_twice {now : Int} {M : Nat → Int} {V : List Nat} (i : Nat) (hM : M i ≤ now - 1) :
    ((markOf (now + 1) (markOf now M V) V i == now + 1) != (markOf now M V i == now)) = false ∧ (markOf (now + 1) (markOf now M V) V i = now + 1 ∨ markOf (now + 1) (markOf now M V) V i = markOf now M V i) := by
  by_cases h : i ∈ V
  · simp [markOf, h]
  · have h1 : (M i == now + 1) = false := by simp; omega
    have h2 : (M i == now) = false := by simp; omega
    simp only [markOf, h, if_false, h1, h2]
    exact ⟨rfl, .inr trivial⟩

theorem markOf_le {now : Int} {M : Nat → Int} {V : List Nat} (i : Nat) (hM : M i ≤ now - 1) : markOf now M V i ≤ now := by
  unfold markOf; split <;> omega

/-- the first call, behind the clones -/
theorem call1_fwd {c : Ctx} {n st : Nat} {e bound : Int} {okb : Bool} {Fl : Nat} (hcn : c.n = n) (hcs : c.start = st) (hce : c.e = e) (hcb : c.bound = bound) (hcf : c.fwd = true) (hO : (fin c).ok = okb ∧ (fin c).F.length = Fl)
    {bs bq bo g4 g5 fn k6 bn k7 : Nat} {a6 a7 : Option Addr} {x6 : List Value} {A : Nat → Option Addr} {L C : Nat → Nat} {A' : Nat → Option Addr} {L' C' : Nat → Nat} {stamp : Int} {M P : Nat → Int} {w3 w4 w5 w6 w7 : World}
    (hZ : RZ c (fun k => w3.heap.size ≤ k) bs bq bo A L C A' L' C' w3) (K4 : Kept Nowhere w3 w4) (K5 : Kept Nowhere w4 w5) (K6 : Kept Nowhere w5 w6) (K7 : Kept Nowhere w6 w7)
    (hg4 : w3.heap.size ≤ g4) (R4 : w4.rowIs g4 3 n (fun i => .int .i64 (M i))) (hg5 : w4.heap.size ≤ g5) (R5 : w5.rowIs g5 3 n (fun i => .int .i64 (P i)))
    (O6 : w6.ownsRow 0 3 1 (.slice a6 fn k6) fn x6) (N6 : ∀ k, (Value.slice a6 fn k6).ownBlock = some k → w5.heap.size ≤ k)
    (hM : ∀ i, i < n → M i ≤ stamp) (hst : st < n) (hs1 : -9223372036854775808 ≤ stamp) (hs2 : stamp < 9223372036854775807) :
    Calls Try.prog 23 #[.slice (some ⟨bs, 0, none⟩) n n, .slice (some ⟨bq, 0, none⟩) n n, .slice (some ⟨bo, 0, none⟩) n n, .int .i64 stamp, .slice (some ⟨g4, 0, none⟩) n n, .slice (some ⟨g5, 0, none⟩) n n, .slice a6 fn k6, .slice a7 bn k7, .int .i64 (st : Nat), .int .i64 e, .int .i64 bound, .bool true] w7
      fun e w' => ∃ a k, e = .returned (.tuple #[.bool okb, .int .i64 (stamp + 1), .slice (some ⟨g4, 0, none⟩) n n, .slice (some ⟨g5, 0, none⟩) n n, .slice a Fl k, .slice a7 bn k7]) ∧ After n Fl c (fun k => k = g4 ∨ k = g5 ∨ (Value.slice a6 fn k6).ownBlock = some k) g4 g5 (stamp + 1) M P a k w7 w' := by
  have l4 := R4.lt
  have l5 := R5.lt
  have s4 := K4.size
  have s5 := K5.size
  have s6 := K6.size
  have hS : ∀ k, (k = g4 ∨ k = g5 ∨ (Value.slice a6 fn k6).ownBlock = some k) → w3.heap.size ≤ k := fun k hk => by
    rcases hk with rfl | rfl | hk
    · exact hg4
    · omega
    · have := N6 k hk; omega
  have k37 : Kept (fun k => w3.heap.size ≤ k) w3 w7 := ((((K4.trans K5).trans K6).trans K7)).mono (fun _ _ h => h.elim)
  exact zz_call_fwd hcn hcs hce hcb hcf hO.1 hO.2 stamp a6 fn k6 a7 bn k7 w7 ((hZ.kept k37).sub hS) (((K5.trans K6).trans K7).row R4 (fun h => h)) ((K6.trans K7).row R5 (fun h => h)) (K7.owns O6 (fun _ _ h => h)) (fun k hk => .inr (.inr hk))
    ⟨fun h => by have := N6 _ h; omega, fun h => by have := N6 _ h; omega⟩ ⟨.inl rfl, .inr (.inl rfl)⟩ (by omega) hM hst hs1 hs2

/-- the second call -/
theorem call2_fwd {c : Ctx} {n st : Nat} {e bound : Int} {okb : Bool} {Fl : Nat} (hcn : c.n = n) (hcs : c.start = st) (hce : c.e = e) (hcb : c.bound = bound) (hcf : c.fwd = true) (hO : (fin c).ok = okb ∧ (fin c).F.length = Fl)
    {bs bq bo g4 g5 bn k7 k8 : Nat} {a7 a8 : Option Addr} {A : Nat → Option Addr} {L C : Nat → Nat} {A' : Nat → Option Addr} {L' C' : Nat → Nat} {stamp : Int} {M P : Nat → Int} {w3 w7 w8 w11 : World} {S : Nat → Prop}
    (hZ : RZ c (fun k => w3.heap.size ≤ k) bs bq bo A L C A' L' C' w3) (K37 : Kept Nowhere w3 w7) (hS1 : ∀ k, S k → w3.heap.size ≤ k) (A1 : After n Fl c S g4 g5 (stamp + 1) M P a8 k8 w7 w8) (K8 : Kept Nowhere w8 w11)
    (hg4 : w3.heap.size ≤ g4) (hg5 : w3.heap.size ≤ g5) (h45 : g4 ≠ g5)
    (hM : ∀ i, i < n → M i ≤ stamp) (hst : st < n) (hs1 : -9223372036854775808 ≤ stamp) (hs2 : stamp < 9223372036854775806) :
    Calls Try.prog 23 #[.slice (some ⟨bs, 0, none⟩) n n, .slice (some ⟨bq, 0, none⟩) n n, .slice (some ⟨bo, 0, none⟩) n n, .int .i64 (stamp + 1), .slice (some ⟨g4, 0, none⟩) n n, .slice (some ⟨g5, 0, none⟩) n n, .slice a8 Fl k8, .slice a7 bn k7, .int .i64 (st : Nat), .int .i64 e, .int .i64 bound, .bool true] w11
      fun e w' => ∃ a k, e = .returned (.tuple #[.bool okb, .int .i64 (stamp + 1 + 1), .slice (some ⟨g4, 0, none⟩) n n, .slice (some ⟨g5, 0, none⟩) n n, .slice a Fl k, .slice a7 bn k7]) ∧ After n Fl c (fun k => k = g4 ∨ k = g5 ∨ (Value.slice a8 Fl k8).ownBlock = some k) g4 g5 (stamp + 1 + 1) (markOf (stamp + 1) M (fin c).V) (parOf P (fin c).ws) a k w11 w' := by
  have s37 := K37.size
  have hS : ∀ k, (k = g4 ∨ k = g5 ∨ (Value.slice a8 Fl k8).ownBlock = some k) → w3.heap.size ≤ k := fun k hk => by
    rcases hk with rfl | rfl | hk
    · exact hg4
    · exact hg5
    · rcases A1.fvS k hk with h | h
      · exact hS1 k h
      · omega
  have k3 : Kept (fun k => w3.heap.size ≤ k) w3 w11 := ((K37.mono (fun _ _ h => h.elim)).trans ((A1.kept.mono (fun k _ h => hS1 k h)))).trans (K8.mono (fun _ _ h => h.elim))
  exact zz_call_fwd hcn hcs hce hcb hcf hO.1 hO.2 (stamp + 1) a8 Fl k8 a7 bn k7 w11 ((hZ.kept k3).sub hS) (K8.row A1.mr (fun h => h)) (K8.row A1.pr (fun h => h)) (K8.owns A1.fo (fun _ _ h => h)) (fun k hk => .inr (.inr hk))
    A1.fd ⟨.inl rfl, .inr (.inl rfl)⟩ h45 (fun i hi => markOf_le i (by have := hM i hi; omega)) hst (by omega) (by omega)

/-- the first call, behind the clones -/
theorem call1_bwd {c : Ctx} {n st : Nat} {e bound : Int} {okb : Bool} {Fl : Nat} (hcn : c.n = n) (hcs : c.start = st) (hce : c.e = e) (hcb : c.bound = bound) (hcf : c.fwd = false) (hO : (fin c).ok = okb ∧ (fin c).F.length = Fl)
    {bs bq bo g4 g5 fn k6 bn k7 : Nat} {a6 a7 : Option Addr} {x7 : List Value} {A : Nat → Option Addr} {L C : Nat → Nat} {A' : Nat → Option Addr} {L' C' : Nat → Nat} {stamp : Int} {M P : Nat → Int} {w3 w4 w5 w6 w7 : World}
    (hZ : RZ c (fun k => w3.heap.size ≤ k) bs bq bo A L C A' L' C' w3) (K4 : Kept Nowhere w3 w4) (K5 : Kept Nowhere w4 w5) (K6 : Kept Nowhere w5 w6) (K7 : Kept Nowhere w6 w7)
    (hg4 : w3.heap.size ≤ g4) (R4 : w4.rowIs g4 3 n (fun i => .int .i64 (M i))) (hg5 : w4.heap.size ≤ g5) (R5 : w5.rowIs g5 3 n (fun i => .int .i64 (P i)))
    (O7 : w7.ownsRow 0 3 1 (.slice a7 bn k7) bn x7) (N7 : ∀ k, (Value.slice a7 bn k7).ownBlock = some k → w6.heap.size ≤ k)
    (hM : ∀ i, i < n → M i ≤ stamp) (hst : st < n) (hs1 : -9223372036854775808 ≤ stamp) (hs2 : stamp < 9223372036854775807) :
    Calls Try.prog 23 #[.slice (some ⟨bs, 0, none⟩) n n, .slice (some ⟨bq, 0, none⟩) n n, .slice (some ⟨bo, 0, none⟩) n n, .int .i64 stamp, .slice (some ⟨g4, 0, none⟩) n n, .slice (some ⟨g5, 0, none⟩) n n, .slice a6 fn k6, .slice a7 bn k7, .int .i64 (st : Nat), .int .i64 e, .int .i64 bound, .bool false] w7
      fun e w' => ∃ a k, e = .returned (.tuple #[.bool okb, .int .i64 (stamp + 1), .slice (some ⟨g4, 0, none⟩) n n, .slice (some ⟨g5, 0, none⟩) n n, .slice a6 fn k6, .slice a Fl k]) ∧ After n Fl c (fun k => k = g4 ∨ k = g5 ∨ (Value.slice a7 bn k7).ownBlock = some k) g4 g5 (stamp + 1) M P a k w7 w' := by
  have l4 := R4.lt
  have l5 := R5.lt
  have s4 := K4.size
  have s5 := K5.size
  have s6 := K6.size
  have hS : ∀ k, (k = g4 ∨ k = g5 ∨ (Value.slice a7 bn k7).ownBlock = some k) → w3.heap.size ≤ k := fun k hk => by
    rcases hk with rfl | rfl | hk
    · exact hg4
    · omega
    · have := N7 k hk; omega
  have k37 : Kept (fun k => w3.heap.size ≤ k) w3 w7 := ((((K4.trans K5).trans K6).trans K7)).mono (fun _ _ h => h.elim)
  exact zz_call_bwd hcn hcs hce hcb hcf hO.1 hO.2 stamp a6 fn k6 a7 bn k7 w7 ((hZ.kept k37).sub hS) (((K5.trans K6).trans K7).row R4 (fun h => h)) ((K6.trans K7).row R5 (fun h => h)) O7 (fun k hk => .inr (.inr hk))
    ⟨fun h => by have := N7 _ h; omega, fun h => by have := N7 _ h; omega⟩ ⟨.inl rfl, .inr (.inl rfl)⟩ (by omega) hM hst hs1 hs2

/-- the second call -/
theorem call2_bwd {c : Ctx} {n st : Nat} {e bound : Int} {okb : Bool} {Fl : Nat} (hcn : c.n = n) (hcs : c.start = st) (hce : c.e = e) (hcb : c.bound = bound) (hcf : c.fwd = false) (hO : (fin c).ok = okb ∧ (fin c).F.length = Fl)
    {bs bq bo g4 g5 fn k6 k8 : Nat} {a6 a8 : Option Addr} {A : Nat → Option Addr} {L C : Nat → Nat} {A' : Nat → Option Addr} {L' C' : Nat → Nat} {stamp : Int} {M P : Nat → Int} {w3 w7 w8 w11 : World} {S : Nat → Prop}
    (hZ : RZ c (fun k => w3.heap.size ≤ k) bs bq bo A L C A' L' C' w3) (K37 : Kept Nowhere w3 w7) (hS1 : ∀ k, S k → w3.heap.size ≤ k) (A1 : After n Fl c S g4 g5 (stamp + 1) M P a8 k8 w7 w8) (K8 : Kept Nowhere w8 w11)
    (hg4 : w3.heap.size ≤ g4) (hg5 : w3.heap.size ≤ g5) (h45 : g4 ≠ g5)
    (hM : ∀ i, i < n → M i ≤ stamp) (hst : st < n) (hs1 : -9223372036854775808 ≤ stamp) (hs2 : stamp < 9223372036854775806) :
    Calls Try.prog 23 #[.slice (some ⟨bs, 0, none⟩) n n, .slice (some ⟨bq, 0, none⟩) n n, .slice (some ⟨bo, 0, none⟩) n n, .int .i64 (stamp + 1), .slice (some ⟨g4, 0, none⟩) n n, .slice (some ⟨g5, 0, none⟩) n n, .slice a6 fn k6, .slice a8 Fl k8, .int .i64 (st : Nat), .int .i64 e, .int .i64 bound, .bool false] w11
      fun e w' => ∃ a k, e = .returned (.tuple #[.bool okb, .int .i64 (stamp + 1 + 1), .slice (some ⟨g4, 0, none⟩) n n, .slice (some ⟨g5, 0, none⟩) n n, .slice a6 fn k6, .slice a Fl k]) ∧ After n Fl c (fun k => k = g4 ∨ k = g5 ∨ (Value.slice a8 Fl k8).ownBlock = some k) g4 g5 (stamp + 1 + 1) (markOf (stamp + 1) M (fin c).V) (parOf P (fin c).ws) a k w11 w' := by
  have s37 := K37.size
  have hS : ∀ k, (k = g4 ∨ k = g5 ∨ (Value.slice a8 Fl k8).ownBlock = some k) → w3.heap.size ≤ k := fun k hk => by
    rcases hk with rfl | rfl | hk
    · exact hg4
    · exact hg5
    · rcases A1.fvS k hk with h | h
      · exact hS1 k h
      · omega
  have k3 : Kept (fun k => w3.heap.size ≤ k) w3 w11 := ((K37.mono (fun _ _ h => h.elim)).trans ((A1.kept.mono (fun k _ h => hS1 k h)))).trans (K8.mono (fun _ _ h => h.elim))
  exact zz_call_bwd hcn hcs hce hcb hcf hO.1 hO.2 (stamp + 1) a6 fn k6 a8 Fl k8 w11 ((hZ.kept k3).sub hS) (K8.row A1.mr (fun h => h)) (K8.row A1.pr (fun h => h)) (K8.owns A1.fo (fun _ _ h => h)) (fun k hk => .inr (.inr hk))
    A1.fd ⟨.inl rfl, .inr (.inl rfl)⟩ h45 (fun i hi => markOf_le i (by have := hM i hi; omega)) hst (by omega) (by omega)

end Go.Proofs.Qxb6604039a
