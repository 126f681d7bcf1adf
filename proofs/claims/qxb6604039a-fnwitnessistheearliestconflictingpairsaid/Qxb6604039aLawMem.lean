/-
  What the two laws over reach share: the clones laid, the context of the plain walk.
-/
import Derived.Test.Qxb6604039aZReach
import Derived.Test.Qxb6604039aBytes
namespace Go.Proofs.Qxb6604039a
open Go.RowKit

def sAddr : Value → Option Addr | .slice a _ _ => a | _ => none
def sCap : Value → Nat | .slice _ _ k => k | _ => 0

theorem Cloned.block {a : Option Addr} {n : Nat} {f : Nat → Int} {v : Value} {w w' : World} (h : Cloned a n f v w w') (ha : a ≠ none) : ∃ g, w.heap.size ≤ g ∧ v = .slice (some ⟨g, 0, none⟩) n n ∧ w'.rowIs g 3 n (fun i => .int .i64 (f i)) := by
  rcases h.2 with ⟨h0, _⟩ | ⟨_, h⟩
  · exact absurd h0 ha
  · exact h

theorem rowIs_owns {w : World} {g n : Nat} {f : Nat → Value} (h : w.rowIs g 3 n f) (hn : n ≤ 1048576) : w.ownsRow 0 3 1 (.slice (some ⟨g, 0, none⟩) n n) n ((List.range n).map f) := by
  obtain ⟨c, hb, hs, hc⟩ := h
  refine ⟨by simp, .inr ⟨g, n, c, rfl, Nat.zero_le _, hb, Nat.le_refl _, by unfold maxLen; omega, by omega, ?_⟩⟩
  apply List.ext_getElem?
  intro i
  by_cases hi : i < n
  · simp [hi]; rw [hc i hi]
  · have h1 : n ≤ i := by omega
    simp [h1, List.getElem?_take]; omega

theorem Cloned.owns {a : Option Addr} {n : Nat} {f : Nat → Int} {v : Value} {w w' : World} (h : Cloned a n f v w w') (ha : a = none → n = 0) (hn : n ≤ 1048576) :
    ∃ a' k', v = .slice a' n k' ∧ (∃ xs, w'.ownsRow 0 3 1 (.slice a' n k') n xs) ∧ (∀ k, (Value.slice a' n k').ownBlock = some k → w.heap.size ≤ k) ∧ a'.isNone = a.isNone ∧ IntsAt w' a' n f := by
  rcases h.2 with ⟨h0, rfl⟩ | ⟨h0, g, hg, rfl, hr⟩
  · obtain rfl := ha h0
    exact ⟨none, 0, rfl, ⟨_, World.ownsRow_nil _ _ _ _⟩, fun k hk => by simp [Value.ownBlock] at hk, by simp [h0], fun h => absurd rfl h⟩
  · refine ⟨_, _, rfl, ⟨_, rowIs_owns hr hn⟩, fun k hk => by simp [Value.ownBlock] at hk; omega, ?_, fun _ => ⟨g, 0, rfl, fun j hj => by rw [Nat.zero_add]; exact hr.cell hj⟩⟩
    cases a with
    | none => exact absurd rfl h0
    | some _ => rfl

theorem owns_ints {w : World} {a : Option Addr} {n k : Nat} {F : List Nat} (h : w.ownsRow 0 3 1 (.slice a n k) n (F.map iv)) : IntsAt w a n (fun i => (F.getD i 0 : Nat)) := by
  intro hn
  rcases h.2 with ⟨_, h0⟩ | ⟨g, cap, cur, hv, hb, hg, hle, hmx, hsz, htk⟩
  · exact absurd h0 hn
  · simp at hv
    obtain ⟨rfl, rfl⟩ := hv
    refine ⟨g, 0, rfl, fun j hj => ?_⟩
    rw [Nat.zero_add, h.cellAt j (by omega)]
    have hl := h.1
    simp at hl
    simp [iv, List.getD_eq_getElem?_getD, List.getElem?_eq_getElem (show j < F.length by omega)]

/-- the plain walk's context -/
def ctxOf (fwd : Bool) (n : Nat) (L : Nat → Nat) (X : Nat → Nat → Int) (O : Nat → Int) (st : Nat) (e bound : Int) : Ctx :=
  { n := n, nx := fun i => (List.range (L i)).map (fun j => (X i j).toNat), ord := O, start := st, e := e, bound := bound, fwd := fwd }

theorem RZ.sub {c : Ctx} {S T : Nat → Prop} {bs bq bo : Nat} {A : Nat → Option Addr} {L C : Nat → Nat} {A' : Nat → Option Addr} {L' C' : Nat → Nat} {w : World} (h : RZ c T bs bq bo A L C A' L' C' w) (hs : ∀ k, S k → T k) : RZ c S bs bq bo A L C A' L' C' w :=
  ⟨fun s => h.nbs (hs _ s), fun s => h.nbq (hs _ s), fun s => h.nbo (hs _ s), h.succ, h.pred, h.ord, h.len, fun i hi => (h.row i hi).mono (fun k _ => hs k), h.lt, h.big, h.nbig⟩

theorem RZ.kept {c : Ctx} {T : Nat → Prop} {bs bq bo : Nat} {A : Nat → Option Addr} {L C : Nat → Nat} {A' : Nat → Option Addr} {L' C' : Nat → Nat} {w w' : World} (h : RZ c T bs bq bo A L C A' L' C' w) (k : Kept T w w') : RZ c T bs bq bo A L C A' L' C' w' :=
  ⟨h.nbs, h.nbq, h.nbo, fun i hi => cell_kept k (h.succ i hi) h.nbs, fun i hi => cell_kept k (h.pred i hi) h.nbq, fun i hi => cell_kept k (h.ord i hi) h.nbo, h.len, fun i hi => (h.row i hi).kept k, h.lt, h.big, h.nbig⟩

theorem RowNew.rowAt {N H n : Nat} {w : World} {v : Value} {f : Nat → Int} (h : RowNew N w v n f) (hH : w.heap.size ≤ H) (hf : ∀ j, j < n → 0 ≤ f j) : RowAt (fun k => H ≤ k) w (sAddr v) ((List.range n).map (fun j => (f j).toNat)) := by
  obtain ⟨a, k, rfl, hc⟩ := h
  by_cases hn : n = 0
  · subst hn; exact .inl rfl
  · obtain ⟨g, ha, hg, hcell⟩ := hc hn
    have hl : g < w.heap.size := World.block_lt_of_cell? w _ (hcell 0 (by omega))
    refine .inr ⟨g, 0, ha, fun (h : H ≤ g) => by omega, fun j hj => ?_⟩
    simp at hj
    rw [Nat.zero_add, hcell j hj]
    simp [Int.toNat_of_nonneg (hf j hj)]

/-- THE GRAPH AND THE ORDER LAID: what ZZReach reads, in the world behind the three clones -/
theorem laid_rz {fwd : Bool} {n : Nat} {L L' : Nat → Nat} {X X' : Nat → Nat → Int} {O : Nat → Int} {st : Nat} {e bound : Int} {w1 w2 w3 : World} {b1 b2 g3 : Nat} {R R' : Nat → Value}
    (h1 : w1.rowIs b1 24 n R) (r1 : ∀ i, i < n → RowNew (b1 + 1) w1 (R i) (L i) (X i)) (k12 : Kept Nowhere w1 w2)
    (h2 : w2.rowIs b2 24 n R') (r2 : ∀ i, i < n → RowNew (b2 + 1) w2 (R' i) (L' i) (X' i)) (k23 : Kept Nowhere w2 w3)
    (h3 : w3.rowIs g3 3 n (fun i => .int .i64 (O i))) (hn : n ≤ 1048576) (hL : ∀ i, i < n → L i ≤ 1048576) (hL' : ∀ i, i < n → L' i ≤ 1048576)
    (hd : ∀ i, i < n → ∀ j, j < (if fwd then L i else L' i) → 0 ≤ (if fwd then X i j else X' i j) ∧ (if fwd then X i j else X' i j) < n) :
    RZ (ctxOf fwd n (fun i => if fwd then L i else L' i) (fun i j => if fwd then X i j else X' i j) O st e bound) (fun k => w3.heap.size ≤ k) b1 b2 g3 (fun i => sAddr (R i)) L (fun i => sCap (R i)) (fun i => sAddr (R' i)) L' (fun i => sCap (R' i)) w3 := by
  have k13 := k12.trans k23
  have l1 : b1 < w1.heap.size := h1.lt
  have l2 : b2 < w2.heap.size := h2.lt
  have l3 : g3 < w3.heap.size := h3.lt
  have s12 := k12.size
  have s23 := k23.size
  have e1 : ∀ i, i < n → R i = .slice (sAddr (R i)) (L i) (sCap (R i)) := fun i hi => by obtain ⟨a, k, h, _⟩ := r1 i hi; rw [h]; rfl
  have e2 : ∀ i, i < n → R' i = .slice (sAddr (R' i)) (L' i) (sCap (R' i)) := fun i hi => by obtain ⟨a, k, h, _⟩ := r2 i hi; rw [h]; rfl
  refine ⟨by omega, by omega, by omega, fun i hi => ?_, fun i hi => ?_, fun i hi => h3.cell hi, fun i hi => ?_, fun i hi => ?_, fun i hi m hm => ?_, fun i hi => ?_, hn⟩
  · rw [← e1 i hi]; exact (k13.row h1 (fun h => h)).cell hi
  · rw [← e2 i hi]; exact (k23.row h2 (fun h => h)).cell hi
  · show (if fwd = true then L i else L' i) = ((List.range (if fwd = true then L i else L' i)).map _).length
    rw [List.length_map, List.length_range]
  · have hd' := hd i hi
    cases fwd with
    | true =>
      simp only [if_true] at hd'
      have q1 := ((r1 i hi).kept k13 (fun _ h => h.elim)).rowAt (Nat.le_refl _) (fun j hj => (hd' j hj).1)
      simpa [ctxOf] using q1
    | false =>
      simp only [Bool.false_eq_true, if_false] at hd'
      have q2 := ((r2 i hi).kept k23 (fun _ h => h.elim)).rowAt (Nat.le_refl _) (fun j hj => (hd' j hj).1)
      simpa [ctxOf] using q2
  · simp only [ctxOf, List.mem_map, List.mem_range] at hm
    obtain ⟨j, hj, rfl⟩ := hm
    have := hd i hi j hj
    show _ < n
    omega
  · simp only [ctxOf, List.length_map, List.length_range]
    have := hL i hi; have := hL' i hi
    split <;> omega

theorem step_F (c : Ctx) (s : St) : s.F.length ≤ (step c s).F.length := by
  unfold step
  cases h : s.S.getLast? with
  | none => exact Nat.le_refl _
  | some p => simp only [inner_F]; simp [pop]

theorem run_F (c : Ctx) : ∀ (k : Nat) (s : St), s.F.length ≤ (run c k s).F.length
  | 0, s => Nat.le_refl _
  | k + 1, s => by
    unfold run
    split
    · exact Nat.le_refl _
    · exact Nat.le_trans (step_F c s) (run_F c k _)

theorem fin_F (c : Ctx) (h : c.start < c.n) : 0 < (fin c).F.length := by
  obtain ⟨k, hk⟩ : ∃ k, c.n = k + 1 := ⟨c.n - 1, by omega⟩
  unfold fin
  rw [hk, run_step (by simp [init]) rfl]
  refine Nat.lt_of_lt_of_le ?_ (run_F c k _)
  rw [step_of (p := c.start) (by simp [init]), inner_F]
  simp [pop]

theorem run_PI (c : Ctx) (hlt : ∀ i, i < c.n → ∀ m ∈ c.nx i, m < c.n) : ∀ (k : Nat) (s : St), PI c s → PI c (run c k s)
  | 0, _, h => h
  | k + 1, s, h => by
    unfold run
    split
    · exact h
    · refine run_PI c hlt k _ ?_
      unfold step
      cases hp : s.S.getLast? with
      | none => exact h
      | some p => exact inner_PI c p _ _ (hlt p (h.vlt p (h.sub p (List.mem_of_getLast? hp)))) (h.pop hp)

theorem fin_PI (c : Ctx) (hlt : ∀ i, i < c.n → ∀ m ∈ c.nx i, m < c.n) (h : c.start < c.n) : PI c (fin c) := run_PI c hlt _ _ (PI.init h)

theorem fin_len (c : Ctx) (hlt : ∀ i, i < c.n → ∀ m ∈ c.nx i, m < c.n) (h : c.start < c.n) : (fin c).F.length ≤ c.n := by
  have p := fin_PI c hlt h
  have := p.vlen; have := p.cnt; omega

end Go.Proofs.Qxb6604039a
