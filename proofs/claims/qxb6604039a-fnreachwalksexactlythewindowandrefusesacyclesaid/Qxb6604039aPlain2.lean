/-
  WHAT THE PLAIN WALK ANSWERS: the nodes it marks are the nodes that can be reached through the window, unless it refuses. No Go in sight.
-/
import Derived.Test.Qxb6604039aPlain
namespace Go.Proofs.Qxb6604039a

/-- a node that can be reached: it lies in every set that holds start and is closed under the walk's steps -/
def Rch (c : Ctx) (v : Nat) : Prop := ∀ T : Nat → Prop, T c.start → (∀ p m, T p → m ∈ c.nx p → hit c m = false → win c m = true → T m) → T v
theorem Rch.start (c : Ctx) : Rch c c.start := fun _ h _ => h
theorem Rch.step {c : Ctx} {p m : Nat} (h : Rch c p) (hm : m ∈ c.nx p) (hh : hit c m = false) (hw : win c m = true) : Rch c m :=
  fun T h0 h1 => h1 p m (h T h0 h1) hm hh hw

/-- m has been dealt with -/
def Cl (c : Ctx) (V : List Nat) (m : Nat) : Prop := hit c m = false ∧ (m ∈ V ∨ win c m = false)
theorem Cl.mono {c : Ctx} {V V' : List Nat} {m : Nat} (h : Cl c V m) (hs : ∀ x ∈ V, x ∈ V') : Cl c V' m := ⟨h.1, h.2.imp (hs m) id⟩

theorem mem_pairs {p q x m : Nat} {r : List Nat} (h : (q, x) ∈ (m :: r).map (fun m => (p, m))) : q = p ∧ (x = m ∨ x ∈ r) := by
  simp only [List.map_cons, List.mem_cons, Prod.mk.injEq, List.mem_map] at h
  rcases h with ⟨h1, h2⟩ | ⟨y, hy, h1, h2⟩
  · exact ⟨h1, .inl h2⟩
  · exact ⟨h1.symm, .inr (h2 ▸ hy)⟩
theorem pairs_mem {p x : Nat} {r : List Nat} (h : x ∈ r) : (p, x) ∈ r.map (fun m => (p, m)) := List.mem_map.2 ⟨x, h, rfl⟩

/-- the parents written for marked nodes: each names a node listed before -/
structure PW (c : Ctx) (V F : List Nat) (pw : List (Nat × Nat)) : Prop where
  fst : V = c.start :: pw.map Prod.fst
  inF : ∀ x ∈ pw, x.2 ∈ F ∧ x.1 ∈ c.nx x.2 ∧ hit c x.1 = false ∧ (x.1 ∈ F → F.idxOf x.2 < F.idxOf x.1)

/-- what holds while p is being dealt with, the list r still to come (p none: between two rounds) -/
structure DI (c : Ctx) (s : St) (r : List (Nat × Nat)) : Prop where
  perm : (s.F ++ s.S).Perm s.V
  nd : s.V.Nodup
  rch : ∀ v ∈ s.V, Rch c v
  pw : PW c s.V s.F s.ws
  head : s.F = [] ∧ s.S = [c.start] ∨ s.F.head? = some c.start
  cl : ∀ q ∈ s.F, ∀ m ∈ c.nx q, Cl c s.V m ∨ (q, m) ∈ r

/-- what holds when the walk has refused -/
structure HI (c : Ctx) (s : St) : Prop where
  perm : (s.F ++ s.S).Perm s.V
  nd : s.V.Nodup
  rch : ∀ v ∈ s.V, Rch c v
  head : s.F.head? = some c.start
  last : ∃ p m pw, s.F.getLast? = some p ∧ m ∈ c.nx p ∧ hit c m = true ∧ s.ws = pw ++ [(m, p)] ∧ PW c s.V s.F pw

theorem idx_snoc_old {F : List Nat} {x p : Nat} (h : x ∈ F) : (F ++ [p]).idxOf x = F.idxOf x := by
  rw [List.idxOf_append, if_pos h]

theorem PW.snoc {c : Ctx} {V F : List Nat} {pw : List (Nat × Nat)} (h : PW c V F pw) {p : Nat} : PW c V (F ++ [p]) pw := by
  refine ⟨h.fst, fun x hx => ?_⟩
  obtain ⟨h1, h2, h3, h4⟩ := h.inF x hx
  refine ⟨by simp [h1], h2, h3, fun hf => ?_⟩
  rw [idx_snoc_old h1]
  by_cases hxF : x.1 ∈ F
  · rw [idx_snoc_old hxF]; exact h4 hxF
  · have hx1 : x.1 = p := by simp [hxF] at hf; exact hf
    rw [List.idxOf_append, if_neg hxF]
    have := List.idxOf_lt_length_of_mem h1
    omega

theorem DI.init (c : Ctx) : DI c (init c) [] :=
  ⟨by simp [Go.Proofs.Qxb6604039a.init], by simp [Go.Proofs.Qxb6604039a.init], by intro v hv; simp [Go.Proofs.Qxb6604039a.init] at hv; subst hv; exact Rch.start c, ⟨by simp [Go.Proofs.Qxb6604039a.init], by simp [Go.Proofs.Qxb6604039a.init]⟩, .inl ⟨rfl, rfl⟩, by simp [Go.Proofs.Qxb6604039a.init]⟩

theorem DI.pop {c : Ctx} {s : St} (h : DI c s []) {p : Nat} (hp : s.S.getLast? = some p) : DI c (pop p s) ((c.nx p).map (fun m => (p, m))) := by
  have hS : s.S = s.S.dropLast ++ [p] := by
    have hne : s.S ≠ [] := by intro e; rw [e] at hp; simp at hp
    rw [List.getLast?_eq_some_getLast hne] at hp
    simp at hp
    rw [← hp]; exact (List.dropLast_concat_getLast hne).symm
  refine ⟨?_, h.nd, h.rch, h.pw.snoc, .inr ?_, ?_⟩
  · show ((s.F ++ [p]) ++ s.S.dropLast).Perm s.V
    refine List.Perm.trans ?_ h.perm
    conv => rhs; rw [hS]
    rw [List.append_assoc]
    exact (List.perm_append_comm).append_left s.F
  · show (s.F ++ [p]).head? = some c.start
    rcases h.head with ⟨h1, h2⟩ | h1
    · rw [h2] at hp; simp at hp; rw [h1]; simp [hp]
    · cases hF : s.F with
      | nil => rw [hF] at h1; simp at h1
      | cons a l => rw [hF] at h1; simpa using h1
  · intro q hq m hm
    simp [Go.Proofs.Qxb6604039a.pop] at hq
    rcases hq with hq | rfl
    · rcases h.cl q hq m hm with h1 | h1
      · exact .inl h1
      · simp at h1
    · exact .inr (pairs_mem hm)

theorem DI.inner_step {c : Ctx} {p : Nat} : ∀ (l : List Nat) (s : St), (∀ m ∈ l, m ∈ c.nx p) → s.ok = true → DI c s (l.map (fun m => (p, m))) → s.F.getLast? = some p →
    ((inner c p l s).ok = true ∧ DI c (inner c p l s) []) ∨ ((inner c p l s).ok = false ∧ HI c (inner c p l s))
  | [], s, _, hok, h, _ => .inl ⟨hok, h⟩
  | m :: r, s, hl, hok, h, hlast => by
    have hmn : m ∈ c.nx p := hl m (by simp)
    have hr : ∀ m ∈ r, m ∈ c.nx p := fun x hx => hl x (List.mem_cons_of_mem _ hx)
    have hpF : p ∈ s.F := List.mem_of_getLast? hlast
    have hpV : p ∈ s.V := h.perm.subset (List.mem_append_left _ hpF)
    have hdrop : Cl c s.V m → DI c s (r.map (fun m => (p, m))) := fun hc => ⟨h.perm, h.nd, h.rch, h.pw, h.head, fun q hq x hx => by
      rcases h.cl q hq x hx with h1 | h1
      · exact .inl h1
      · obtain ⟨rfl, h2⟩ := mem_pairs h1
        rcases h2 with rfl | h2
        · exact .inl hc
        · exact .inr (pairs_mem h2)⟩
    by_cases hh : hit c m = true
    · rw [inner_hit hh]
      refine .inr ⟨rfl, h.perm, h.nd, h.rch, ?_, p, m, s.ws, hlast, hmn, hh, rfl, h.pw⟩
      rcases h.head with ⟨h1, _⟩ | h1
      · rw [h1] at hlast; simp at hlast
      · exact h1
    · have hh' : hit c m = false := by simpa using hh
      by_cases hv : m ∈ s.V
      · rw [inner_seen hh' hv]
        exact DI.inner_step r s hr hok (hdrop ⟨hh', .inl hv⟩) hlast
      · by_cases hw : win c m = true
        · rw [inner_push hh' hv hw]
          refine DI.inner_step r (push p m s) hr hok ⟨?_, ?_, ?_, ?_, ?_, ?_⟩ hlast
          · show (s.F ++ (s.S ++ [m])).Perm (s.V ++ [m])
            rw [← List.append_assoc]
            exact h.perm.append_right [m]
          · show (s.V ++ [m]).Nodup
            rw [List.nodup_append]
            exact ⟨h.nd, by simp, fun a ha b hb => by simp at hb; subst hb; rintro rfl; exact hv ha⟩
          · intro v hv'
            simp [Go.Proofs.Qxb6604039a.push] at hv'
            rcases hv' with hv' | rfl
            · exact h.rch v hv'
            · exact (h.rch p hpV).step hmn hh' hw
          · refine ⟨?_, fun x hx => ?_⟩
            · show s.V ++ [m] = c.start :: (s.ws ++ [(m, p)]).map Prod.fst
              rw [List.map_append, ← List.cons_append, ← h.pw.fst]; rfl
            · have hx' : x ∈ s.ws ∨ x = (m, p) := by simpa [Go.Proofs.Qxb6604039a.push] using hx
              rcases hx' with hx' | rfl
              · exact h.pw.inF x hx'
              · refine ⟨hpF, hmn, hh', fun hmF => ?_⟩
                exact absurd (h.perm.subset (List.mem_append_left _ hmF)) hv
          · rcases h.head with ⟨h1, _⟩ | h1
            · rw [h1] at hpF; simp at hpF
            · exact .inr h1
          · intro q hq x hx
            have hsub : ∀ y ∈ s.V, y ∈ s.V ++ [m] := fun y hy => List.mem_append_left _ hy
            rcases h.cl q hq x hx with h1 | h1
            · exact .inl (h1.mono hsub)
            · obtain ⟨rfl, h2⟩ := mem_pairs h1
              rcases h2 with rfl | h2
              · exact .inl ⟨hh', .inl (by simp [Go.Proofs.Qxb6604039a.push])⟩
              · exact .inr (pairs_mem h2)
        · have hw' : win c m = false := by simpa using hw
          rw [inner_out hh' hv hw']
          exact DI.inner_step r s hr hok (hdrop ⟨hh', .inr hw'⟩) hlast

/-- at the end: all is dealt with; or it has refused -/
theorem run_DI (c : Ctx) (hlt : ∀ i, i < c.n → ∀ m ∈ c.nx i, m < c.n) : ∀ (k : Nat) (s : St), s.ok = true → PI c s → DI c s [] → k + s.F.length = c.n →
    ((run c k s).ok = true ∧ DI c (run c k s) [] ∧ (run c k s).S = []) ∨ ((run c k s).ok = false ∧ HI c (run c k s))
  | 0, s, hok, hp, h, hk => .inl ⟨hok, h, by
      have := hp.vlen; have := hp.cnt
      exact List.length_eq_zero_iff.1 (by show s.S.length = 0; omega)⟩
  | k + 1, s, hok, hp, h, hk => by
    by_cases hS : s.S = []
    · rw [run_stop (.inl hS)]; exact .inl ⟨hok, h, hS⟩
    · rw [run_step hS hok]
      obtain ⟨p, hpl⟩ : ∃ p, s.S.getLast? = some p := by
        cases h : s.S.getLast? with
        | none => exact absurd (List.getLast?_eq_none_iff.1 h) hS
        | some p => exact ⟨p, rfl⟩
      have hpn : p < c.n := hp.vlt p (hp.sub p (List.mem_of_getLast? hpl))
      rw [step_of hpl]
      have hlast : (pop p s).F.getLast? = some p := by simp [pop]
      have hPI' := inner_PI c p (c.nx p) (pop p s) (hlt p hpn) (hp.pop hpl)
      have hF' : (inner c p (c.nx p) (pop p s)).F.length = s.F.length + 1 := by rw [inner_F]; simp [pop]
      rcases DI.inner_step (c.nx p) (pop p s) (fun m hm => hm) hok (h.pop hpl) hlast with ⟨h1, h2⟩ | ⟨h1, h2⟩
      · exact run_DI c hlt k _ h1 hPI' h2 (by omega)
      · rw [run_stop (.inr h1)]; exact .inr ⟨h1, h2⟩

theorem fin_DI (c : Ctx) (hlt : ∀ i, i < c.n → ∀ m ∈ c.nx i, m < c.n) (h : c.start < c.n) :
    ((fin c).ok = true ∧ DI c (fin c) [] ∧ (fin c).S = []) ∨ ((fin c).ok = false ∧ HI c (fin c)) :=
  run_DI c hlt c.n (init c) rfl (PI.init h) (DI.init c) (by simp [init])

/-! ### the breadth-first walk of the law -/
/-- Q: the queue so far; h nodes of it are done; b: end has been met. rem: what is left of the list of node Q[h], none between two rounds. -/
structure BI (c : Ctx) (h : Nat) (Q : List Nat) (b : Bool) (rem : List (Nat × Nat)) : Prop where
  nd : Q.Nodup
  lt : ∀ q ∈ Q, q < c.n
  st : c.start ∈ Q
  rch : ∀ q ∈ Q, Rch c q
  hle : h ≤ Q.length
  cl : ∀ i (hi : i < Q.length), i < h → ∀ m ∈ c.nx Q[i], (hit c m = true → b = true ∨ (Q[i], m) ∈ rem) ∧ (hit c m = false → m ∈ Q ∨ win c m = false ∨ (Q[i], m) ∈ rem)
  hb : b = true → ∃ p ∈ Q, ∃ m ∈ c.nx p, hit c m = true

theorem BI.start {c : Ctx} (h : c.start < c.n) : BI c 0 [c.start] false [] :=
  ⟨by simp, by simp [h], by simp, by intro q hq; simp at hq; subst hq; exact Rch.start c, by simp, by intro i hi h0; omega, by simp⟩

theorem BI.next {c : Ctx} {h : Nat} {Q : List Nat} {b : Bool} (B : BI c h Q b []) (hh : h < Q.length) : BI c (h + 1) Q b ((c.nx Q[h]).map (fun m => (Q[h], m))) := by
  refine ⟨B.nd, B.lt, B.st, B.rch, hh, fun i hi hle m hm => ?_, B.hb⟩
  by_cases e : i = h
  · subst e; exact ⟨fun _ => .inr (pairs_mem hm), fun _ => .inr (.inr (pairs_mem hm))⟩
  · have h0 := B.cl i hi (by omega) m hm
    refine ⟨fun h1 => ?_, fun h1 => ?_⟩
    · rcases h0.1 h1 with h2 | h2
      · exact .inl h2
      · simp at h2
    · rcases h0.2 h1 with h2 | h2 | h2
      · exact .inl h2
      · exact .inr (.inl h2)
      · simp at h2

theorem BI.len {c : Ctx} {h : Nat} {Q : List Nat} {b : Bool} {r : List (Nat × Nat)} (B : BI c h Q b r) : Q.length ≤ c.n := nodup_len c.n Q B.nd B.lt

theorem BI.met {c : Ctx} {h : Nat} {Q : List Nat} {b : Bool} {p m : Nat} {r : List Nat} (B : BI c h Q b ((m :: r).map (fun m => (p, m)))) (hp : p ∈ Q) (hm : m ∈ c.nx p) (hh : hit c m = true) : BI c h Q true (r.map (fun m => (p, m))) := by
  refine ⟨B.nd, B.lt, B.st, B.rch, B.hle, fun i hi hle x hx => ⟨fun _ => .inl rfl, fun hx2 => ?_⟩, fun _ => ⟨p, hp, m, hm, hh⟩⟩
  rcases (B.cl i hi hle x hx).2 hx2 with h1 | h1 | h1
  · exact .inl h1
  · exact .inr (.inl h1)
  · obtain ⟨h3, h2⟩ := mem_pairs h1
    rcases h2 with rfl | h2
    · rw [hh] at hx2; simp at hx2
    · exact .inr (.inr (h3 ▸ pairs_mem h2))

theorem BI.skip {c : Ctx} {h : Nat} {Q : List Nat} {b : Bool} {p m : Nat} {r : List Nat} (B : BI c h Q b ((m :: r).map (fun m => (p, m)))) (hh : Go.Proofs.Qxb6604039a.hit c m = false) (hm : m ∈ Q ∨ win c m = false) : BI c h Q b (r.map (fun m => (p, m))) := by
  refine ⟨B.nd, B.lt, B.st, B.rch, B.hle, fun i hi hle x hx => ⟨fun hx2 => ?_, fun hx2 => ?_⟩, B.hb⟩
  · rcases (B.cl i hi hle x hx).1 hx2 with h1 | h1
    · exact .inl h1
    · obtain ⟨h3, h2⟩ := mem_pairs h1
      rcases h2 with rfl | h2
      · rw [hh] at hx2; simp at hx2
      · exact .inr (h3 ▸ pairs_mem h2)
  · rcases (B.cl i hi hle x hx).2 hx2 with h1 | h1 | h1
    · exact .inl h1
    · exact .inr (.inl h1)
    · obtain ⟨h3, h2⟩ := mem_pairs h1
      rcases h2 with rfl | h2
      · rcases hm with hm | hm
        · exact .inl hm
        · exact .inr (.inl hm)
      · exact .inr (.inr (h3 ▸ pairs_mem h2))

theorem BI.grow {c : Ctx} {h : Nat} {Q : List Nat} {b : Bool} {p m : Nat} {r : List Nat} (B : BI c h Q b ((m :: r).map (fun m => (p, m)))) (hp : p ∈ Q) (hmp : m ∈ c.nx p) (hmn : m < c.n) (hh : Go.Proofs.Qxb6604039a.hit c m = false) (hv : m ∉ Q) (hw : win c m = true) : BI c h (Q ++ [m]) b (r.map (fun m => (p, m))) := by
  refine ⟨?_, ?_, by simp [B.st], ?_, by have := B.hle; simp; omega, fun i hi hle x hx => ?_, fun hb => ?_⟩
  · rw [List.nodup_append]
    exact ⟨B.nd, by simp, fun a ha b hb => by simp at hb; subst hb; rintro rfl; exact hv ha⟩
  · intro q hq; simp at hq; rcases hq with hq | rfl; exact B.lt q hq; exact hmn
  · intro q hq; simp at hq; rcases hq with hq | rfl; exact B.rch q hq; exact (B.rch p hp).step hmp hh hw
  · have hi' : i < Q.length := Nat.lt_of_lt_of_le hle B.hle
    have e : (Q ++ [m])[i] = Q[i] := List.getElem_append_left hi'
    rw [e] at hx ⊢
    have hc := B.cl i hi' hle x hx
    refine ⟨fun hx2 => ?_, fun hx2 => ?_⟩
    · rcases hc.1 hx2 with h1 | h1
      · exact .inl h1
      · obtain ⟨h3, h2⟩ := mem_pairs h1
        rcases h2 with rfl | h2
        · rw [hh] at hx2; simp at hx2
        · exact .inr (h3 ▸ pairs_mem h2)
    · rcases hc.2 hx2 with h1 | h1 | h1
      · exact .inl (by simp [h1])
      · exact .inr (.inl h1)
      · obtain ⟨h3, h2⟩ := mem_pairs h1
        rcases h2 with rfl | h2
        · exact .inl (by simp)
        · exact .inr (.inr (h3 ▸ pairs_mem h2))
  · obtain ⟨p, hp, x, hx, hxh⟩ := B.hb hb
    exact ⟨p, by simp [hp], x, hx, hxh⟩

/-- the queue at its end is what can be reached -/
theorem BI.all {c : Ctx} {Q : List Nat} {b : Bool} (B : BI c Q.length Q b []) (v : Nat) : Rch c v ↔ v ∈ Q := by
  refine ⟨fun h => h (fun v => v ∈ Q) B.st (fun p m hp hm hh hw => ?_), B.rch v⟩
  obtain ⟨i, hi, rfl⟩ := List.getElem_of_mem hp
  rcases (B.cl i hi hi m hm).2 hh with h1 | h1 | h1
  · exact h1
  · rw [hw] at h1; simp at h1
  · simp at h1

theorem BI.met_iff {c : Ctx} {Q : List Nat} {b : Bool} (B : BI c Q.length Q b []) : b = true ↔ ∃ p ∈ Q, ∃ m ∈ c.nx p, hit c m = true := by
  refine ⟨B.hb, fun ⟨p, hp, m, hm, hh⟩ => ?_⟩
  obtain ⟨i, hi, rfl⟩ := List.getElem_of_mem hp
  rcases (B.cl i hi hi m hm).1 hh with h1 | h1
  · exact h1
  · simp at h1

theorem parOf_unique : ∀ (pw : List (Nat × Nat)) (P : Nat → Int) (i p : Nat), (pw.map Prod.fst).Nodup → (i, p) ∈ pw → parOf P pw i = p
  | [], _, _, _, _, h => by simp at h
  | (a, b) :: r, P, i, p, hn, h => by
    simp only [List.map_cons, List.nodup_cons] at hn
    simp only [List.mem_cons, Prod.mk.injEq] at h
    simp only [parOf]
    rcases h with ⟨rfl, rfl⟩ | h
    · rw [parOf_not_mem _ r i (fun q hq => hn.1 (List.mem_map.2 ⟨(i, q), hq, rfl⟩))]
      simp
    · exact parOf_unique r _ i p hn.2 h

theorem PW.par {c : Ctx} {V F : List Nat} {pw : List (Nat × Nat)} (h : PW c V F pw) (hn : V.Nodup) (P : Nat → Int) {i : Nat} (hi : i ∈ V) (hs : i ≠ c.start) :
    ∃ p, parOf P pw i = (p : Nat) ∧ p ∈ F ∧ i ∈ c.nx p ∧ hit c i = false ∧ (i ∈ F → F.idxOf p < F.idxOf i) := by
  rw [h.fst] at hi hn
  simp only [List.mem_cons] at hi
  rcases hi with hi | hi
  · exact absurd hi hs
  · obtain ⟨⟨x, p⟩, hx, rfl⟩ := List.mem_map.1 hi
    obtain ⟨h1, h2, h3, h4⟩ := h.inF _ hx
    exact ⟨p, parOf_unique pw P x p (List.nodup_cons.1 hn).2 hx, h1, h2, h3, h4⟩

theorem PW.par_out {c : Ctx} {V F : List Nat} {pw : List (Nat × Nat)} (h : PW c V F pw) (hn : V.Nodup) (P : Nat → Int) {i : Nat} (hi : ¬ (i ∈ V ∧ i ≠ c.start)) : parOf P pw i = P i := by
  refine parOf_not_mem P pw i (fun p hp => hi ?_)
  have hm : i ∈ pw.map Prod.fst := List.mem_map.2 ⟨(i, p), hp, rfl⟩
  rw [h.fst] at hn ⊢
  refine ⟨List.mem_cons_of_mem _ hm, ?_⟩
  rintro rfl
  exact (List.nodup_cons.1 hn).1 hm

theorem nodup_sub : ∀ {a b : List Nat}, a.Nodup → (∀ x ∈ a, x ∈ b) → a.length ≤ b.length
  | [], b, _, _ => by simp
  | x :: a, b, hn, h => by
    have h1 := nodup_sub (a := a) (b := b.erase x) (List.nodup_cons.1 hn).2 (fun y hy => by
      have hyx : y ≠ x := by rintro rfl; exact (List.nodup_cons.1 hn).1 hy
      exact (List.mem_erase_of_ne hyx).2 (h y (List.mem_cons_of_mem _ hy)))
    have hx : x ∈ b := h x (by simp)
    have h2 : b.length = (b.erase x).length + 1 := by
      rw [List.length_erase_of_mem hx]
      have := List.length_pos_of_mem hx
      omega
    simp only [List.length_cons]; omega

/-- ALL THAT THE LAW ASKS of the plain walk, beside the queue Q of the breadth-first walk -/
structure Ans (c : Ctx) (t : St) (Q : List Nat) (b : Bool) (P : Nat → Int) : Prop where
  ok : t.ok = !b
  fnd : t.F.Nodup
  fv : ∀ v ∈ t.F, v ∈ t.V
  vq : ∀ v ∈ t.V, v ∈ Q
  qv : t.ok = true → ∀ v ∈ Q, v ∈ t.V
  head : t.F.head? = some c.start
  len : t.ok = true → t.F.length = Q.length
  par : ∀ i, i ∈ t.V → i ≠ c.start → (t.ok = false → (i : Int) ≠ c.e) → ∃ p, parOf P t.ws i = (p : Nat) ∧ p ∈ t.F ∧ i ∈ c.nx p ∧ (i ∈ t.F → t.F.idxOf p < t.F.idxOf i)
  out : ∀ i, ¬ (i ∈ t.V ∧ i ≠ c.start) → (t.ok = false → (i : Int) ≠ c.e) → parOf P t.ws i = P i
  stop : t.ok = false → ∀ i : Nat, (i : Int) = c.e → ∃ p, t.F.getLast? = some p ∧ parOf P t.ws i = (p : Nat) ∧ i ∈ c.nx p

theorem ans (c : Ctx) (hlt : ∀ i, i < c.n → ∀ m ∈ c.nx i, m < c.n) (h : c.start < c.n) {Q : List Nat} {b : Bool} (B : BI c Q.length Q b []) (P : Nat → Int) : Ans c (fin c) Q b P := by
  rcases fin_DI c hlt h with ⟨hok, D, hS⟩ | ⟨hok, D⟩
  · have hF : (fin c).F.Perm (fin c).V := by have := D.perm; rw [hS, List.append_nil] at this; exact this
    have hqv : ∀ v ∈ Q, v ∈ (fin c).V := by
      intro v hv
      refine (B.all v).2 hv (fun v => v ∈ (fin c).V) ?_ (fun p m hp hm hh hw => ?_)
      · rw [D.pw.fst]; simp
      · rcases D.cl p (hF.symm.subset hp) m hm with h1 | h1
        · rcases h1.2 with h2 | h2
          · exact h2
          · rw [hw] at h2; simp at h2
        · simp at h1
    have hvq : ∀ v ∈ (fin c).V, v ∈ Q := fun v hv => (B.all v).1 (D.rch v hv)
    have hhead : (fin c).F.head? = some c.start := by
      rcases D.head with ⟨_, h2⟩ | h2
      · rw [hS] at h2; simp at h2
      · exact h2
    refine ⟨?_, hF.nodup_iff.2 D.nd, fun v hv => hF.subset hv, hvq, fun _ => hqv, hhead, fun _ => ?_, fun i hi hs _ => ?_, fun i hi _ => D.pw.par_out D.nd P hi, fun h => by rw [hok] at h; simp at h⟩
    · rw [hok]
      cases hb : b with
      | false => rfl
      | true =>
        obtain ⟨p, hp, m, hm, hh⟩ := B.met_iff.1 hb
        rcases D.cl p (hF.symm.subset (hqv p hp)) m hm with h1 | h1
        · rw [h1.1] at hh; simp at hh
        · simp at h1
    · rw [hF.length_eq]
      exact Nat.le_antisymm (nodup_sub D.nd hvq) (nodup_sub B.nd hqv)
    · obtain ⟨p, h1, h2, h3, _, h5⟩ := D.pw.par D.nd P hi hs
      exact ⟨p, h1, h2, h3, h5⟩
  · have hfv : ∀ v ∈ (fin c).F, v ∈ (fin c).V := fun v hv => D.perm.subset (List.mem_append_left _ hv)
    have hvq : ∀ v ∈ (fin c).V, v ∈ Q := fun v hv => (B.all v).1 (D.rch v hv)
    have hnd : (fin c).F.Nodup := (List.nodup_append.1 (D.perm.nodup_iff.2 D.nd)).1
    obtain ⟨p, m, pw, hl, hm, hh, hw, hpw⟩ := D.last
    have hme : (m : Int) = c.e := by simp [hit] at hh; exact hh.2
    have hpF : p ∈ (fin c).F := List.mem_of_getLast? hl
    refine ⟨?_, hnd, hfv, hvq, fun h => by rw [hok] at h; simp at h, D.head, fun h => by rw [hok] at h; simp at h, fun i hi hs he => ?_, fun i hi he => ?_, fun _ i hi => ?_⟩
    · rw [hok, B.met_iff.2 ⟨p, hvq p (hfv p hpF), m, hm, hh⟩]; rfl
    · have hne : i ≠ m := by rintro rfl; exact he hok hme
      obtain ⟨q, h1, h2, h3, _, h5⟩ := hpw.par D.nd P hi hs
      refine ⟨q, ?_, h2, h3, h5⟩
      rw [hw, parOf_snoc]; simp [hne, h1]
    · have hne : i ≠ m := by rintro rfl; exact he hok hme
      rw [hw, parOf_snoc]; simp [hne]; exact hpw.par_out D.nd P hi
    · obtain rfl : i = m := by omega
      exact ⟨p, hl, by rw [hw, parOf_snoc]; simp, hm⟩

end Go.Proofs.Qxb6604039a
