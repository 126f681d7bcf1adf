/-
  THE PLAIN WALK OF reach: no Go in sight. A graph over the nodes 0 .. n-1; a stack; what is marked, what is listed, which parents are written.
-/
namespace Go.Proofs.Qxb6604039a

structure Ctx where
  n : Nat
  nx : Nat → List Nat
  ord : Nat → Int
  start : Nat
  e : Int
  bound : Int
  fwd : Bool

/-- V: the nodes marked, in order · ws: the parents written, in order · S: the stack, its top last · F: the nodes listed. -/
structure St where
  V : List Nat
  ws : List (Nat × Nat)
  S : List Nat
  F : List Nat
  ok : Bool

def win (c : Ctx) (m : Nat) : Bool := if c.fwd then decide (c.ord m < c.bound) else decide (c.bound < c.ord m)
def hit (c : Ctx) (m : Nat) : Bool := c.fwd && ((m : Int) == c.e)

def push (p m : Nat) (s : St) : St := { s with V := s.V ++ [m], ws := s.ws ++ [(m, p)], S := s.S ++ [m] }
def stopAt (p m : Nat) (s : St) : St := { s with ws := s.ws ++ [(m, p)], ok := false }

def inner (c : Ctx) (p : Nat) : List Nat → St → St
  | [], s => s
  | m :: r, s =>
    if hit c m = true then stopAt p m s
    else if m ∈ s.V then inner c p r s
    else if win c m = true then inner c p r (push p m s)
    else inner c p r s

def pop (p : Nat) (s : St) : St := { s with S := s.S.dropLast, F := s.F ++ [p] }

def step (c : Ctx) (s : St) : St :=
  match s.S.getLast? with
  | none => s
  | some p => inner c p (c.nx p) (pop p s)

def run (c : Ctx) : Nat → St → St
  | 0, s => s
  | k + 1, s => if s.S = [] ∨ s.ok = false then s else run c k (step c s)

def init (c : Ctx) : St := { V := [c.start], ws := [], S := [c.start], F := [], ok := true }
def fin (c : Ctx) : St := run c c.n (init c)

/-- what holds at every round's head -/
structure PI (c : Ctx) (s : St) : Prop where
  vlt : ∀ v ∈ s.V, v < c.n
  vnd : s.V.Nodup
  sub : ∀ v ∈ s.S, v ∈ s.V
  cnt : s.F.length + s.S.length = s.V.length

theorem nodup_len : ∀ (n : Nat) (l : List Nat), l.Nodup → (∀ x ∈ l, x < n) → l.length ≤ n
  | 0, [], _, _ => by simp
  | 0, a :: l, _, h => by have := h a (by simp); omega
  | n + 1, l, hn, h => by
    have h1 := nodup_len n (l.erase n) (hn.erase n) (fun x hx => by
      have := (List.Nodup.mem_erase_iff hn).1 hx
      have := h x this.2
      omega)
    have h2 : l.length ≤ (l.erase n).length + 1 := by
      rw [List.length_erase]; split <;> omega
    omega

theorem PI.vlen {c : Ctx} {s : St} (h : PI c s) : s.V.length ≤ c.n := nodup_len c.n s.V h.vnd h.vlt

theorem PI.init {c : Ctx} (h : c.start < c.n) : PI c (init c) :=
  ⟨by simp [Go.Proofs.Qxb6604039a.init, h], by simp [Go.Proofs.Qxb6604039a.init], by simp [Go.Proofs.Qxb6604039a.init], by simp [Go.Proofs.Qxb6604039a.init]⟩

theorem PI.push {c : Ctx} {s : St} (h : PI c s) {p m : Nat} (hm : m < c.n) (hv : m ∉ s.V) : PI c (push p m s) := by
  refine ⟨?_, ?_, ?_, ?_⟩
  · intro v hv; simp [Go.Proofs.Qxb6604039a.push] at hv; rcases hv with hv | rfl; exact h.vlt v hv; exact hm
  · simp only [Go.Proofs.Qxb6604039a.push]
    rw [List.nodup_append]
    refine ⟨h.vnd, by simp, ?_⟩
    intro a ha b hb; simp at hb; subst hb; rintro rfl; exact hv ha
  · intro v hv; simp [Go.Proofs.Qxb6604039a.push] at hv ⊢; rcases hv with hv | rfl; exact .inl (h.sub v hv); exact .inr rfl
  · have := h.cnt; simp [Go.Proofs.Qxb6604039a.push]; omega

theorem PI.stopAt {c : Ctx} {s : St} (h : PI c s) {p m : Nat} : PI c (stopAt p m s) := ⟨h.vlt, h.vnd, h.sub, h.cnt⟩

theorem PI.pop {c : Ctx} {s : St} (h : PI c s) {p : Nat} (hp : s.S.getLast? = some p) : PI c (pop p s) := by
  have hne : s.S ≠ [] := by intro e; rw [e] at hp; simp at hp
  refine ⟨h.vlt, h.vnd, fun v hv => h.sub v (List.dropLast_subset _ hv), ?_⟩
  have := h.cnt
  have hl : 0 < s.S.length := List.length_pos_iff.2 hne
  simp [Go.Proofs.Qxb6604039a.pop]; omega

theorem run_stop {c : Ctx} {k : Nat} {s : St} (h : s.S = [] ∨ s.ok = false) : run c k s = s := by
  cases k with
  | zero => rfl
  | succ k => simp only [run, if_pos h]

theorem run_step {c : Ctx} {k : Nat} {s : St} (h1 : s.S ≠ []) (h2 : s.ok = true) : run c (k + 1) s = run c k (step c s) := by
  simp only [run]; rw [if_neg (by simp [h1, h2])]

theorem step_of {c : Ctx} {s : St} {p : Nat} (hp : s.S.getLast? = some p) : step c s = inner c p (c.nx p) (pop p s) := by
  simp only [step, hp]

theorem inner_hit {c : Ctx} {p m : Nat} {r : List Nat} {s : St} (h : hit c m = true) : inner c p (m :: r) s = stopAt p m s := by
  simp only [inner, if_pos h]
theorem inner_seen {c : Ctx} {p m : Nat} {r : List Nat} {s : St} (h : hit c m = false) (hv : m ∈ s.V) : inner c p (m :: r) s = inner c p r s := by
  simp [inner, h, hv]
theorem inner_push {c : Ctx} {p m : Nat} {r : List Nat} {s : St} (h : hit c m = false) (hv : m ∉ s.V) (hw : win c m = true) : inner c p (m :: r) s = inner c p r (push p m s) := by
  simp [inner, h, hv, hw]
theorem inner_out {c : Ctx} {p m : Nat} {r : List Nat} {s : St} (h : hit c m = false) (hv : m ∉ s.V) (hw : win c m = false) : inner c p (m :: r) s = inner c p r s := by
  simp [inner, h, hv, hw]

theorem inner_F (c : Ctx) (p : Nat) : ∀ (l : List Nat) (s : St), (inner c p l s).F = s.F
  | [], s => rfl
  | m :: r, s => by
    simp only [inner]
    split
    · rfl
    · split
      · exact inner_F c p r s
      · split
        · rw [inner_F c p r]; rfl
        · exact inner_F c p r s

theorem inner_PI (c : Ctx) (p : Nat) : ∀ (l : List Nat) (s : St), (∀ m ∈ l, m < c.n) → PI c s → PI c (inner c p l s)
  | [], s, _, h => h
  | m :: r, s, hl, h => by
    have hr : ∀ m ∈ r, m < c.n := fun x hx => hl x (List.mem_cons_of_mem _ hx)
    simp only [inner]
    split
    · exact h.stopAt
    · split
      · exact inner_PI c p r s hr h
      · split
        · exact inner_PI c p r _ hr (h.push (hl m (by simp)) ‹_›)
        · exact inner_PI c p r s hr h

/-- marks and parents as functions of the node -/
def markOf (now : Int) (M : Nat → Int) (V : List Nat) : Nat → Int := fun i => if i ∈ V then now else M i
def parOf (P : Nat → Int) : List (Nat × Nat) → Nat → Int
  | [] => P
  | (m, p) :: r => parOf (fun j => if j = m then (p : Int) else P j) r

theorem parOf_snoc (P : Nat → Int) (ws : List (Nat × Nat)) (m p : Nat) : parOf P (ws ++ [(m, p)]) = fun j => if j = m then (p : Int) else parOf P ws j := by
  induction ws generalizing P with
  | nil => rfl
  | cons a r ih => obtain ⟨x, y⟩ := a; simp only [List.cons_append, parOf]; exact ih _

theorem markOf_snoc (now : Int) (M : Nat → Int) (V : List Nat) (m : Nat) : markOf now M (V ++ [m]) = fun j => if j = m then now else markOf now M V j := by
  funext j; simp only [markOf, List.mem_append, List.mem_singleton]
  by_cases h : j = m
  · simp [h]
  · simp [h]

/-- what was written is what is read, whatever lay there before -/
theorem parOf_of_mem (P Q : Nat → Int) (ws : List (Nat × Nat)) (j : Nat) (h : P j = Q j ∨ ∃ p, (j, p) ∈ ws) : parOf P ws j = parOf Q ws j := by
  induction ws generalizing P Q with
  | nil => rcases h with h | ⟨p, h⟩; exact h; simp at h
  | cons a r ih =>
    obtain ⟨x, y⟩ := a
    simp only [parOf]
    apply ih
    by_cases e : j = x
    · exact .inl (by simp [e])
    · rcases h with h | ⟨p, h⟩
      · exact .inl (by simp [e, h])
      · simp at h
        rcases h with h | h
        · exact absurd h.1 e
        · exact .inr ⟨p, h⟩

theorem parOf_not_mem (P : Nat → Int) (ws : List (Nat × Nat)) (j : Nat) (h : ∀ p, (j, p) ∉ ws) : parOf P ws j = P j := by
  induction ws generalizing P with
  | nil => rfl
  | cons a r ih =>
    obtain ⟨x, y⟩ := a
    simp only [parOf]
    rw [ih _ (fun p hp => h p (List.mem_cons_of_mem _ hp))]
    have : j ≠ x := by rintro rfl; exact h y (by simp)
    simp [this]

/-- the same writes twice are the same writes once -/
theorem parOf_twice (P : Nat → Int) (ws : List (Nat × Nat)) : parOf (parOf P ws) ws = parOf P ws := by
  funext j
  by_cases h : ∃ p, (j, p) ∈ ws
  · exact parOf_of_mem _ _ ws j (.inr h)
  · have h' : ∀ p, (j, p) ∉ ws := fun p hp => h ⟨p, hp⟩
    rw [parOf_not_mem _ ws j h']

end Go.Proofs.Qxb6604039a
