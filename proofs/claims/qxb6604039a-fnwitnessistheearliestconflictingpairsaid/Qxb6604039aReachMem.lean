/-
  What lies in memory while reach walks.
-/
import Derived.Test.Qxb6604039aRows
import Derived.Test.Qxb6604039aMem
import Derived.Test.Qxb6604039aPlain
namespace Go.Proofs.Qxb6604039a
open Go.RowKit

/-- the dynamicOrder behind d -/
def DAt (w : World) (bd : Nat) (nodesV predV ordV : Value) (stamp : Int) (markV parV stackV fwdV backV : Value) : Prop :=
  w.heap[bd]? = some (.cells #[nodesV, predV, ordV, .slice none 0 0, .map none, .int .i64 stamp, markV, parV, stackV, fwdV, backV, .slice none 0 0] 71 (0, 0))

section
variable {w w' : World} {bd : Nat} {nodesV predV ordV markV parV stackV fwdV backV : Value} {stamp : Int}
theorem DAt.lt (h : DAt w bd nodesV predV ordV stamp markV parV stackV fwdV backV) : bd < w.heap.size := (Array.getElem?_eq_some_iff.1 h).1
theorem DAt.c0 (h : DAt w bd nodesV predV ordV stamp markV parV stackV fwdV backV) : w.cell? ⟨bd, 0, none⟩ = some nodesV := by unfold DAt at h; simp [World.cell?, h]
theorem DAt.c1 (h : DAt w bd nodesV predV ordV stamp markV parV stackV fwdV backV) : w.cell? ⟨bd, 1, none⟩ = some predV := by unfold DAt at h; simp [World.cell?, h]
theorem DAt.c2 (h : DAt w bd nodesV predV ordV stamp markV parV stackV fwdV backV) : w.cell? ⟨bd, 2, none⟩ = some ordV := by unfold DAt at h; simp [World.cell?, h]
theorem DAt.c5 (h : DAt w bd nodesV predV ordV stamp markV parV stackV fwdV backV) : w.cell? ⟨bd, 5, none⟩ = some (.int .i64 stamp) := by unfold DAt at h; simp [World.cell?, h]
theorem DAt.c6 (h : DAt w bd nodesV predV ordV stamp markV parV stackV fwdV backV) : w.cell? ⟨bd, 6, none⟩ = some markV := by unfold DAt at h; simp [World.cell?, h]
theorem DAt.c7 (h : DAt w bd nodesV predV ordV stamp markV parV stackV fwdV backV) : w.cell? ⟨bd, 7, none⟩ = some parV := by unfold DAt at h; simp [World.cell?, h]
theorem DAt.c8 (h : DAt w bd nodesV predV ordV stamp markV parV stackV fwdV backV) : w.cell? ⟨bd, 8, none⟩ = some stackV := by unfold DAt at h; simp [World.cell?, h]
theorem DAt.c9 (h : DAt w bd nodesV predV ordV stamp markV parV stackV fwdV backV) : w.cell? ⟨bd, 9, none⟩ = some fwdV := by unfold DAt at h; simp [World.cell?, h]
theorem DAt.c10 (h : DAt w bd nodesV predV ordV stamp markV parV stackV fwdV backV) : w.cell? ⟨bd, 10, none⟩ = some backV := by unfold DAt at h; simp [World.cell?, h]
theorem DAt.fz (h : DAt w bd nodesV predV ordV stamp markV parV stackV fwdV backV) (i : Nat) : w.frozen? ⟨bd, i, none⟩ = false := by unfold DAt at h; simp [World.frozen?, h]
theorem DAt.of_block (h : DAt w bd nodesV predV ordV stamp markV parV stackV fwdV backV) (e : w'.heap[bd]? = w.heap[bd]?) : DAt w' bd nodesV predV ordV stamp markV parV stackV fwdV backV := e.trans h
theorem DAt.set5 (h : DAt w bd nodesV predV ordV stamp markV parV stackV fwdV backV) (z : Int) : DAt (w.setCell ⟨bd, 5, none⟩ (.int .i64 z)) bd nodesV predV ordV z markV parV stackV fwdV backV := by
  unfold DAt at *; simp [World.setCell, Array.getElem?_modify, h]
theorem DAt.set8 (h : DAt w bd nodesV predV ordV stamp markV parV stackV fwdV backV) (z : Value) : DAt (w.setCell ⟨bd, 8, none⟩ z) bd nodesV predV ordV stamp markV parV z fwdV backV := by
  unfold DAt at *; simp [World.setCell, Array.getElem?_modify, h]
theorem DAt.set9 (h : DAt w bd nodesV predV ordV stamp markV parV stackV fwdV backV) (z : Value) : DAt (w.setCell ⟨bd, 9, none⟩ z) bd nodesV predV ordV stamp markV parV stackV z backV := by
  unfold DAt at *; simp [World.setCell, Array.getElem?_modify, h]
theorem DAt.set10 (h : DAt w bd nodesV predV ordV stamp markV parV stackV fwdV backV) (z : Value) : DAt (w.setCell ⟨bd, 10, none⟩ z) bd nodesV predV ordV stamp markV parV stackV fwdV z := by
  unfold DAt at *; simp [World.setCell, Array.getElem?_modify, h]
end

/-- a list of nodes as a slice that is only read, none of its cells in a block of S -/
def RowAt (S : Nat → Prop) (w : World) (a : Option Addr) (l : List Nat) : Prop :=
  l = [] ∨ ∃ b o, a = some ⟨b, o, none⟩ ∧ ¬ S b ∧ ∀ j (h : j < l.length), w.cell? ⟨b, o + j, none⟩ = some (.int .i64 (l[j] : Nat))

/-- what reach only reads -/
structure RO (c : Ctx) (S : Nat → Prop) (bn bq bo : Nat) (A : Nat → Option Addr) (L C : Nat → Nat) (A' : Nat → Option Addr) (L' C' : Nat → Nat) (w : World) : Prop where
  nbn : ¬ S bn
  nbq : ¬ S bq
  nbo : ¬ S bo
  nodes : ∀ i, i < c.n → w.cell? ⟨bn, i * 3 + 2, none⟩ = some (.slice (A i) (L i) (C i))
  pred : ∀ i, i < c.n → w.cell? ⟨bq, i, none⟩ = some (.slice (A' i) (L' i) (C' i))
  ord : ∀ i, i < c.n → w.cell? ⟨bo, i, none⟩ = some (.int .i64 (c.ord i))
  len : ∀ i, i < c.n → (if c.fwd then L i else L' i) = (c.nx i).length
  row : ∀ i, i < c.n → RowAt S w (if c.fwd then A i else A' i) (c.nx i)
  lt : ∀ i, i < c.n → ∀ m ∈ c.nx i, m < c.n
  big : ∀ i, i < c.n → (c.nx i).length ≤ 1048576
  nbig : c.n ≤ 1048576

theorem cell_kept {S : Nat → Prop} {w w' : World} (h : Kept S w w') {b o : Nat} {v : Value} (hc : w.cell? ⟨b, o, none⟩ = some v) (hs : ¬ S b) : w'.cell? ⟨b, o, none⟩ = some v :=
  (h.cell (World.block_lt_of_cell? w _ hc) hs).trans hc

theorem RowAt.kept {S : Nat → Prop} {w w' : World} {a : Option Addr} {l : List Nat} (h : RowAt S w a l) (k : Kept S w w') : RowAt S w' a l := by
  rcases h with h | ⟨b, o, ha, hs, hc⟩
  · exact .inl h
  · exact .inr ⟨b, o, ha, hs, fun j hj => cell_kept k (hc j hj) hs⟩

theorem RO.kept {c : Ctx} {S : Nat → Prop} {bn bq bo : Nat} {A : Nat → Option Addr} {L C : Nat → Nat} {A' : Nat → Option Addr} {L' C' : Nat → Nat} {w w' : World} (h : RO c S bn bq bo A L C A' L' C' w) (k : Kept S w w') : RO c S bn bq bo A L C A' L' C' w' :=
  ⟨h.nbn, h.nbq, h.nbo, fun i hi => cell_kept k (h.nodes i hi) h.nbn, fun i hi => cell_kept k (h.pred i hi) h.nbq, fun i hi => cell_kept k (h.ord i hi) h.nbo, h.len, fun i hi => (h.row i hi).kept k, h.lt, h.big, h.nbig⟩

def iv (m : Nat) : Value := .int .i64 (m : Int)

/-- the blocks and values that stay as they are while reach walks -/
structure Fix where
  bd : Nat
  bm : Nat
  bp : Nat
  nodesV : Value
  predV : Value
  ordV : Value
  fwdV : Value
  backV : Value
  now : Int
  M : Nat → Int
  P : Nat → Int

/-- the state s, in memory: fv the list found so far, gs and cs the stack's block and capacity -/
structure RI (c : Ctx) (S : Nat → Prop) (x : Fix) (s : St) (fv : Value) (gs cs : Nat) (w wr : World) : Prop where
  d : DAt wr x.bd x.nodesV x.predV x.ordV x.now (.slice (some ⟨x.bm, 0, none⟩) c.n c.n) (.slice (some ⟨x.bp, 0, none⟩) c.n c.n) (.slice (some ⟨gs, 0, none⟩) s.S.length cs) x.fwdV x.backV
  mr : wr.rowIs x.bm 3 c.n (fun i => .int .i64 (markOf x.now x.M s.V i))
  pr : wr.rowIs x.bp 3 c.n (fun i => .int .i64 (parOf x.P s.ws i))
  st : wr.ownsRow 0 3 1 (.slice (some ⟨gs, 0, none⟩) s.S.length cs) s.S.length (s.S.map iv)
  fo : wr.ownsRow 0 3 1 fv s.F.length (s.F.map iv)
  gsN : w.heap.size ≤ gs
  fvS : ∀ k, fv.ownBlock = some k → S k ∨ w.heap.size ≤ k
  fs : fv.ownBlock ≠ some gs
  fd : fv.ownBlock ≠ some x.bd ∧ fv.ownBlock ≠ some x.bm ∧ fv.ownBlock ≠ some x.bp
  kept : Kept S w wr
  own : S x.bd ∧ S x.bm ∧ S x.bp
  lt : x.bd < w.heap.size ∧ x.bm < w.heap.size ∧ x.bp < w.heap.size
  ne : x.bd ≠ x.bm ∧ x.bd ≠ x.bp ∧ x.bm ≠ x.bp

variable {c : Ctx} {S : Nat → Prop} {x : Fix} {s : St} {fv : Value} {gs cs : Nat} {w wr wr' : World}

theorem RI.drawn (h : RI c S x s fv gs cs w wr) (k : Drawn wr wr') : RI c S x s fv gs cs w wr' :=
  ⟨h.d.of_block (by rw [k.1]), row_drawn h.mr k, row_drawn h.pr k, owns_drawn h.st k, owns_drawn h.fo k, h.gsN, h.fvS, h.fs, h.fd, h.kept.drawn k, h.own, h.lt, h.ne⟩

theorem RI.alloc (h : RI c S x s fv gs cs w wr) (o : Obj) : RI c S x s fv gs cs w (wr.alloc o) :=
  ⟨h.d.of_block (Deep.blk_alloc_lt _ _ _ h.d.lt), h.mr.alloc o, h.pr.alloc o, h.st.alloc o, h.fo.alloc o, h.gsN, h.fvS, h.fs, h.fd, h.kept.alloc o, h.own, h.lt, h.ne⟩

/-- the stack's block is none of the others -/
theorem RI.gne (h : RI c S x s fv gs cs w wr) : gs ≠ x.bd ∧ gs ≠ x.bm ∧ gs ≠ x.bp := by
  have := h.gsN; have := h.lt; omega

/-- a cell of the stack -/
theorem RI.stk (h : RI c S x s fv gs cs w wr) (j : Nat) (hj : j < s.S.length) : wr.cell? ⟨gs, j, none⟩ = some (iv s.S[j]) := by
  rw [h.st.cellAt j (by omega)]; simp [hj]

theorem RI.mark (h : RI c S x s fv gs cs w wr) {m : Nat} (hm : m < c.n) : wr.cell? ⟨x.bm, m, none⟩ = some (.int .i64 (markOf x.now x.M s.V m)) := h.mr.cell hm
theorem RI.par (h : RI c S x s fv gs cs w wr) {m : Nat} (hm : m < c.n) : wr.cell? ⟨x.bp, m, none⟩ = some (.int .i64 (parOf x.P s.ws m)) := h.pr.cell hm

theorem ownsRow_setCell_ne {w : World} {base e size : Nat} {v : Value} {n : Nat} {xs : List Value} (h : w.ownsRow base e size v n xs) {a : Addr} (ha : v.ownBlock ≠ some a.block) (u : Value) : (w.setCell a u).ownsRow base e size v n xs := by
  refine ⟨h.1, ?_⟩
  rcases h.2 with hn | ⟨g, cap, cur, rfl, hb, hg, rest⟩
  · exact .inl hn
  · refine .inr ⟨g, cap, cur, rfl, hb, ?_, rest⟩
    rw [Deep.blk_setCell_other _ _ _ _ (by rintro rfl; exact ha rfl)]
    exact hg

theorem ownsRow_cut {w : World} {base : Nat} {g n cap m : Nat} {xs : List Value} (h : w.ownsRow base 3 1 (.slice (some ⟨g, 0, none⟩) n cap) n xs) (hm : m ≤ n) : w.ownsRow base 3 1 (.slice (some ⟨g, 0, none⟩) m cap) m (xs.take m) := by
  have h1 := h.1
  refine ⟨by simp; omega, .inr ?_⟩
  rcases h.2 with ⟨hn, _⟩ | ⟨g', cap', cur, hv, hb, hg, hle, hmx, hsz, htk⟩
  · simp at hn
  · simp at hv
    obtain ⟨rfl, rfl⟩ := hv
    refine ⟨g, cap, cur, rfl, hb, hg, by omega, hmx, hsz, ?_⟩
    rw [← htk, List.take_take]; congr 1; omega

/-- WHAT THE POP DOES: the stack cut by one, then the node appended to the list. -/
theorem RI.popped (h : RI c S x s fv gs cs w wr) :
    RI c S x { s with S := s.S.dropLast } fv gs cs w (wr.setCell ⟨x.bd, 8, none⟩ (.slice (some ⟨gs, 0, none⟩) (s.S.length - 1) cs)) := by
  have hl : s.S.dropLast.length = s.S.length - 1 := by simp
  have g := h.gne
  have hst := ownsRow_cut h.st (m := s.S.length - 1) (by omega)
  refine ⟨?_, h.mr.setOther (a := ⟨x.bd, 8, none⟩) (fun e => h.ne.1 e.symm) _, h.pr.setOther (a := ⟨x.bd, 8, none⟩) (fun e => h.ne.2.1 e.symm) _, ?_, ownsRow_setCell_ne h.fo h.fd.1 _, h.gsN, h.fvS, h.fs, h.fd, h.kept.setCell (.inl h.own.1) _, h.own, h.lt, h.ne⟩
  · show DAt _ _ _ _ _ _ _ _ (.slice (some ⟨gs, 0, none⟩) s.S.dropLast.length cs) _ _
    rw [hl]; exact h.d.set8 _
  · show World.ownsRow _ 0 3 1 (.slice (some ⟨gs, 0, none⟩) s.S.dropLast.length cs) s.S.dropLast.length (s.S.dropLast.map iv)
    have e : s.S.dropLast.map iv = (s.S.map iv).take (s.S.length - 1) := by rw [List.dropLast_eq_take, List.map_take]
    rw [hl, e]
    exact ownsRow_setCell_ne hst (by simp [Value.ownBlock]; exact g.1) _

/-- WHAT THE append ONTO THE LIST DOES -/
theorem RI.listed (h : RI c S x s fv gs cs w wr) {p g' cap' : Nat} {w1 : World} (ho : w1.ownsRow 0 3 1 (.slice (some ⟨g', 0, none⟩) (s.F.length + 1) cap') (s.F.length + 1) (s.F.map iv ++ [iv p])) (hg : wr.grownBy w1 fv.ownBlock) (hw : fv.ownBlock = some g' ∨ wr.heap.size ≤ g') :
    RI c S x { s with F := s.F ++ [p] } (.slice (some ⟨g', 0, none⟩) (s.F.length + 1) cap') gs cs w w1 := by
  have gn := h.gne
  have hgl : gs < wr.heap.size := (h.st.lt gs rfl).2
  have hb : ∀ k, k < wr.heap.size → fv.ownBlock ≠ some k → w1.heap[k]? = wr.heap[k]? := fun k hk hne => hg.block k hk (fun e => hne e.symm)
  have hbd := hb x.bd h.d.lt h.fd.1
  have hbm := hb x.bm h.mr.lt h.fd.2.1
  have hbp := hb x.bp h.pr.lt h.fd.2.2
  have hk := h.kept
  have hsz := hk.size
  have hlt := h.lt
  have hgs' : g' ≠ gs := by rintro rfl; rcases hw with hw | hw; exact h.fs hw; omega
  refine ⟨h.d.of_block hbd, h.mr.of_block hbm, h.pr.of_block hbp, ?_, ?_, h.gsN, ?_, ?_, ?_, ?_, h.own, h.lt, h.ne⟩
  · exact h.st.kept hg (.inr (by simp [Value.ownBlock]; exact fun e => h.fs e.symm))
  · simpa using ho
  · intro k hk'
    simp [Value.ownBlock] at hk'; subst hk'
    rcases hw with hw | hw
    · exact h.fvS _ hw
    · exact .inr (by omega)
  · simp [Value.ownBlock]; exact hgs'
  · simp only [Value.ownBlock]
    refine ⟨?_, ?_, ?_⟩ <;> (intro e; simp at e; subst e; rcases hw with hw | hw)
    · exact h.fd.1 hw
    · omega
    · exact h.fd.2.1 hw
    · omega
    · exact h.fd.2.2 hw
    · omega
  · exact hk.grown hg (fun k hk' => h.fvS k hk')

/-- WHAT THE TWO STORES DO: a node marked, its parent written -/
theorem RI.marked (h : RI c S x s fv gs cs w wr) (p m : Nat) :
    RI c S x { s with V := s.V ++ [m], ws := s.ws ++ [(m, p)] } fv gs cs w ((wr.setCell ⟨x.bm, m, none⟩ (.int .i64 x.now)).setCell ⟨x.bp, m, none⟩ (.int .i64 p)) := by
  have gn := h.gne
  refine ⟨?_, ?_, ?_, ?_, ?_, h.gsN, h.fvS, h.fs, h.fd, ?_, h.own, h.lt, h.ne⟩
  · refine h.d.of_block ?_
    rw [Deep.blk_setCell_other _ _ _ _ (by exact h.ne.2.1), Deep.blk_setCell_other _ _ _ _ (by exact h.ne.1)]
  · refine ((h.mr.set m (.int .i64 x.now)).setOther (a := ⟨x.bp, m, none⟩) h.ne.2.2 _).congr ?_
    intro i _
    show (if i = m then _ else _) = Value.int .i64 (markOf x.now x.M (s.V ++ [m]) i)
    rw [markOf_snoc]; by_cases e : i = m <;> simp [e]
  · refine ((h.pr.setOther (a := ⟨x.bm, m, none⟩) h.ne.2.2.symm _).set m (.int .i64 p)).congr ?_
    intro i _
    show (if i = m then _ else _) = Value.int .i64 (parOf x.P (s.ws ++ [(m, p)]) i)
    rw [parOf_snoc]; by_cases e : i = m <;> simp [e]
  · exact ownsRow_setCell_ne (ownsRow_setCell_ne h.st (by simp [Value.ownBlock]; exact gn.2.1) _) (by simp [Value.ownBlock]; exact gn.2.2) _
  · exact ownsRow_setCell_ne (ownsRow_setCell_ne h.fo h.fd.2.1 _) h.fd.2.2 _
  · exact (h.kept.setCell (.inl h.own.2.1) _).setCell (.inl h.own.2.2) _

/-- WHAT THE STORE AT A HIT DOES -/
theorem RI.stopped (h : RI c S x s fv gs cs w wr) (p m : Nat) :
    RI c S x (stopAt p m s) fv gs cs w (wr.setCell ⟨x.bp, m, none⟩ (.int .i64 p)) := by
  have gn := h.gne
  refine ⟨?_, h.mr.setOther (a := ⟨x.bp, m, none⟩) h.ne.2.2 _, ?_, ownsRow_setCell_ne h.st (by simp [Value.ownBlock]; exact gn.2.2) _, ownsRow_setCell_ne h.fo h.fd.2.2 _, h.gsN, h.fvS, h.fs, h.fd, h.kept.setCell (.inl h.own.2.2) _, h.own, h.lt, h.ne⟩
  · exact h.d.of_block (Deep.blk_setCell_other _ _ _ _ (by exact h.ne.2.1))
  · refine (h.pr.set m (.int .i64 p)).congr ?_
    intro i _
    show (if i = m then _ else _) = Value.int .i64 (parOf x.P (s.ws ++ [(m, p)]) i)
    rw [parOf_snoc]; by_cases e : i = m <;> simp [e]

/-- WHAT THE append ONTO THE STACK DOES, the field written -/
theorem RI.pushed (h : RI c S x s fv gs cs w wr) {m g' cap' : Nat} {w1 : World} (ho : w1.ownsRow 0 3 1 (.slice (some ⟨g', 0, none⟩) (s.S.length + 1) cap') (s.S.length + 1) (s.S.map iv ++ [iv m])) (hg : wr.grownBy w1 (some gs)) (hw : some gs = some g' ∨ wr.heap.size ≤ g') :
    RI c S x { s with S := s.S ++ [m] } fv g' cap' w (w1.setCell ⟨x.bd, 8, none⟩ (.slice (some ⟨g', 0, none⟩) (s.S.length + 1) cap')) := by
  have gn := h.gne
  have hb : ∀ k, k < wr.heap.size → k ≠ gs → w1.heap[k]? = wr.heap[k]? := fun k hk hne => hg.block k hk (by simpa using hne)
  have hbd := hb x.bd h.d.lt gn.1.symm
  have hbm := hb x.bm h.mr.lt gn.2.1.symm
  have hbp := hb x.bp h.pr.lt gn.2.2.symm
  have hk := h.kept
  have hsz := hk.size
  have hN := h.gsN
  have hlt := h.lt
  have hg'N : w.heap.size ≤ g' := by rcases hw with hw | hw; (simp at hw; omega); omega
  have hl : (s.S ++ [m]).length = s.S.length + 1 := by simp
  refine ⟨?_, (h.mr.of_block hbm).setOther (a := ⟨x.bd, 8, none⟩) (fun e => h.ne.1 e.symm) _, (h.pr.of_block hbp).setOther (a := ⟨x.bd, 8, none⟩) (fun e => h.ne.2.1 e.symm) _, ?_, ?_, hg'N, h.fvS, ?_, h.fd, ?_, h.own, h.lt, h.ne⟩
  · show DAt _ _ _ _ _ _ _ _ (.slice (some ⟨g', 0, none⟩) (s.S ++ [m]).length cap') _ _
    rw [hl]; exact (h.d.of_block hbd).set8 _
  · show World.ownsRow _ 0 3 1 (.slice (some ⟨g', 0, none⟩) (s.S ++ [m]).length cap') (s.S ++ [m]).length ((s.S ++ [m]).map iv)
    rw [hl, List.map_append]
    exact ownsRow_setCell_ne ho (by simp [Value.ownBlock]; omega) _
  · exact ownsRow_setCell_ne (h.fo.kept hg (.inr h.fs)) h.fd.1 _
  · intro e
    rcases hw with hw | hw
    · simp at hw; subst hw; exact h.fs e
    · have := (h.fo.lt g' e).2; omega
  · exact (hk.grown hg (fun k hk' => by simp at hk'; subst hk'; exact .inr hN)).setCell (.inl h.own.1) _

theorem ownsRow_zero {w : World} {fa : Option Addr} {fl fc : Nat} {xs : List Value} (h : w.ownsRow 0 3 1 (.slice fa fl fc) fl xs) : w.ownsRow 0 3 1 (.slice fa 0 fc) 0 [] := by
  refine ⟨rfl, ?_⟩
  rcases h.2 with ⟨hv, _⟩ | ⟨g, cap, cur, hv, hb, hg, hle, hmx, hsz, htk⟩
  · simp at hv; obtain ⟨rfl, rfl, rfl⟩ := hv; exact .inl ⟨rfl, rfl⟩
  · simp at hv; obtain ⟨rfl, rfl⟩ := hv; exact .inr ⟨g, fc, cur, rfl, hb, hg, by omega, hmx, hsz, by simp⟩

theorem cell_new (w : World) (v : Value) (t n : Nat) (hn : n = w.heap.size) : ((w.alloc (.cells #[v] t)).drew).cell? ⟨n, 0, none⟩ = some v := by
  subst hn
  show (w.alloc (.cells #[v] t)).cell? _ = _
  rw [World.cell?_alloc_at _ _ _ _ rfl]; rfl

/-- THE START: stamp raised, start marked: what lies there as the stack is stored. -/
theorem start_d {c : Ctx} {x : Fix} {w w1 w2 : World} {stamp : Int} (hnow : x.now = stamp + 1)
    (hd : DAt w x.bd x.nodesV x.predV x.ordV stamp (.slice (some ⟨x.bm, 0, none⟩) c.n c.n) (.slice (some ⟨x.bp, 0, none⟩) c.n c.n) (.slice none 0 0) x.fwdV x.backV)
    (ne : x.bd ≠ x.bm ∧ x.bd ≠ x.bp ∧ x.bm ≠ x.bp)
    {o : Obj} (hw1 : Drawn (((w.setCell ⟨x.bd, 5, none⟩ (.int .i64 (stamp + 1))).setCell ⟨x.bm, c.start, none⟩ (.int .i64 (stamp + 1))).alloc o) w1) (hg : w1.grownBy w2 none) :
    DAt w2 x.bd x.nodesV x.predV x.ordV x.now (.slice (some ⟨x.bm, 0, none⟩) c.n c.n) (.slice (some ⟨x.bp, 0, none⟩) c.n c.n) (.slice none 0 0) x.fwdV x.backV := by
  have e1 : w1.heap.size = w.heap.size + 1 := by rw [hw1.1, Deep.nblk_alloc, Deep.nblk_setCell, Deep.nblk_setCell]
  have hdl := hd.lt
  rw [hnow]
  refine (hd.set5 (stamp + 1)).of_block ?_
  rw [hg.block x.bd (by omega) (by simp), hw1.1, Deep.blk_alloc_lt _ _ _ (by rw [Deep.nblk_setCell, Deep.nblk_setCell]; exact hdl), Deep.blk_setCell_other _ _ _ _ (by exact ne.1)]

theorem RI.start {c : Ctx} {S : Nat → Prop} {x : Fix} {w w2 : World} {fa : Option Addr} {fl fc : Nat} {fx : List Value} {stamp : Int} {g cap : Nat} (hnow : x.now = stamp + 1)
    (hd : DAt w x.bd x.nodesV x.predV x.ordV stamp (.slice (some ⟨x.bm, 0, none⟩) c.n c.n) (.slice (some ⟨x.bp, 0, none⟩) c.n c.n) (.slice none 0 0) x.fwdV x.backV)
    (hmk : w.rowIs x.bm 3 c.n (fun i => .int .i64 (x.M i))) (hpr : w.rowIs x.bp 3 c.n (fun i => .int .i64 (x.P i)))
    (hfo : w.ownsRow 0 3 1 (.slice fa fl fc) fl fx) (hfS : ∀ k, (Value.slice fa fl fc).ownBlock = some k → S k)
    (hfd : (Value.slice fa fl fc).ownBlock ≠ some x.bd ∧ (Value.slice fa fl fc).ownBlock ≠ some x.bm ∧ (Value.slice fa fl fc).ownBlock ≠ some x.bp)
    (own : S x.bd ∧ S x.bm ∧ S x.bp) (ne : x.bd ≠ x.bm ∧ x.bd ≠ x.bp ∧ x.bm ≠ x.bp)
    {w1 : World} {o : Obj} (hw1 : Drawn (((w.setCell ⟨x.bd, 5, none⟩ (.int .i64 (stamp + 1))).setCell ⟨x.bm, c.start, none⟩ (.int .i64 (stamp + 1))).alloc o) w1)
    (ho : w2.ownsRow 0 3 1 (.slice (some ⟨g, 0, none⟩) (0 + 1) cap) (0 + 1) ([] ++ [iv c.start])) (hg : w1.grownBy w2 none) (hw : (Value.slice none 0 0).ownBlock = some g ∨ w1.heap.size ≤ g) :
    RI c S x (init c) (.slice fa 0 fc) g cap w (w2.setCell ⟨x.bd, 8, none⟩ (.slice (some ⟨g, 0, none⟩) (0 + 1) cap)) := by
  have d2 := start_d hnow hd ne hw1 hg
  rw [← hnow] at hw1
  have hz := ownsRow_zero hfo
  have hK1 : Kept S w w1 := ((((Kept.refl S w).setCell (.inl own.1) _).setCell (.inl own.2.1) _).alloc o).drawn hw1
  have hK2 : Kept S w w2 := hK1.grown hg (fun k hk => by simp at hk)
  have e1 : w1.heap.size = w.heap.size + 1 := by rw [hw1.1, Deep.nblk_alloc, Deep.nblk_setCell, Deep.nblk_setCell]
  have hgN : w.heap.size + 1 ≤ g := by rcases hw with hw | hw; (simp [Value.ownBlock] at hw); omega
  have hob : ∀ k, (Value.slice fa 0 fc).ownBlock = some k → (Value.slice fa fl fc).ownBlock = some k := fun k hk => by
    cases fa with
    | none => simp [Value.ownBlock] at hk
    | some a => exact hk
  have hblk : ∀ k, k < w.heap.size → w2.heap[k]? = ((w.setCell ⟨x.bd, 5, none⟩ (.int .i64 x.now)).setCell ⟨x.bm, c.start, none⟩ (.int .i64 x.now)).heap[k]? := fun k hk => by
    rw [hg.block k (by omega) (by simp), hw1.1, Deep.blk_alloc_lt _ _ _ (by rw [Deep.nblk_setCell, Deep.nblk_setCell]; exact hk)]
  have m2 : w2.rowIs x.bm 3 c.n (fun i => .int .i64 (markOf x.now x.M [c.start] i)) := by
    refine (((hmk.setOther (a := ⟨x.bd, 5, none⟩) ne.1.symm (.int .i64 x.now)).set c.start (.int .i64 x.now)).of_block (hblk x.bm hmk.lt)).congr ?_
    intro i _
    by_cases e : i = c.start <;> simp [markOf, e]
  have p2 : w2.rowIs x.bp 3 c.n (fun i => .int .i64 (parOf x.P [] i)) :=
    ((hpr.setOther (a := ⟨x.bd, 5, none⟩) ne.2.1.symm (.int .i64 x.now)).setOther (a := ⟨x.bm, c.start, none⟩) ne.2.2.symm (.int .i64 x.now)).of_block (hblk x.bp hpr.lt)
  have hdl := hd.lt
  have f2 : w2.ownsRow 0 3 1 (.slice fa 0 fc) 0 [] := by
    have hA := ownsRow_setCell_ne (ownsRow_setCell_ne hz (a := ⟨x.bd, 5, none⟩) (fun e => hfd.1 (hob _ e)) (.int .i64 x.now)) (a := ⟨x.bm, c.start, none⟩) (fun e => hfd.2.1 (hob _ e)) (.int .i64 x.now)
    exact (owns_drawn (hA.alloc o) hw1).kept hg (by
      cases fa with
      | none => exact .inl rfl
      | some a => exact .inr (by simp [Value.ownBlock]))
  refine ⟨d2.set8 _, m2.setOther (a := ⟨x.bd, 8, none⟩) ne.1.symm _, p2.setOther (a := ⟨x.bd, 8, none⟩) ne.2.1.symm _, ownsRow_setCell_ne ho (by simp [Value.ownBlock]; omega) _, ownsRow_setCell_ne f2 (fun e => hfd.1 (hob _ e)) _, by omega, fun k hk => .inl (hfS k (hob k hk)), ?_, ⟨fun e => hfd.1 (hob _ e), fun e => hfd.2.1 (hob _ e), fun e => hfd.2.2 (hob _ e)⟩, hK2.setCell (.inl own.1) _, own, ⟨hd.lt, hmk.lt, hpr.lt⟩, ne⟩
  intro e
  have := (hfo.lt g (hob g e)).2
  omega

/-- the loop's relation -/
def OR (c : Ctx) (S : Nat → Prop) (x : Fix) (w : World) (gk : Nat) (s : St) (f : Value) (gs cs : Nat) (wr : World) : Prop :=
  RI c S x s f gs cs w wr ∧ PI c s ∧ run c gk s = fin c ∧ gk + s.F.length = c.n

theorem cell_new0 (w : World) (v : Value) (t n : Nat) (hn : n = w.heap.size) : (w.alloc (.cells #[v] t)).cell? ⟨n, 0, none⟩ = some v := by
  subst hn
  rw [World.cell?_alloc_at _ _ _ _ rfl]; rfl

theorem cell_newN (w : World) (v : Value) (t n k : Nat) (hn : n = w.heap.size) : ((w.alloc (.cells #[v] t)).drewN k).cell? ⟨n, 0, none⟩ = some v := by
  subst hn
  show (w.alloc (.cells #[v] t)).cell? _ = _
  rw [World.cell?_alloc_at _ _ _ _ rfl]; rfl

/-- what the round reads behind the list -/
theorem after_list {c : Ctx} {S : Nat → Prop} {x : Fix} {s : St} {fv : Value} {gs cs : Nat} {w wr : World} {bn bq bo : Nat} {A : Nat → Option Addr} {L C : Nat → Nat} {A' : Nat → Option Addr} {L' C' : Nat → Nat}
    (h0 : x.nodesV = .slice (some ⟨bn, 0, none⟩) c.n c.n ∧ x.predV = .slice (some ⟨bq, 0, none⟩) c.n c.n ∧ x.ordV = .slice (some ⟨bo, 0, none⟩) c.n c.n)
    (h : RI c S x s fv gs cs w wr) (hro : RO c S bn bq bo A L C A' L' C' w) {p : Nat} (hp : p < c.n) :
    wr.cell? ⟨x.bd, 0, none⟩ = some (.slice (some ⟨bn, 0, none⟩) c.n c.n) ∧ wr.cell? ⟨x.bd, 1, none⟩ = some (.slice (some ⟨bq, 0, none⟩) c.n c.n) ∧ wr.cell? ⟨bn, p * 3 + 2, none⟩ = some (.slice (A p) (L p) (C p)) ∧ wr.cell? ⟨bq, p, none⟩ = some (.slice (A' p) (L' p) (C' p)) := by
  have hr := hro.kept h.kept
  exact ⟨by rw [← h0.1]; exact h.d.c0, by rw [← h0.2.1]; exact h.d.c1, hr.nodes p hp, hr.pred p hp⟩

theorem after_list_fwd {c : Ctx} {S : Nat → Prop} {x : Fix} {s : St} {fv : Value} {gs cs : Nat} {w wr : World} {bn bq bo : Nat} {A : Nat → Option Addr} {L C : Nat → Nat} {A' : Nat → Option Addr} {L' C' : Nat → Nat}
    (h0 : x.nodesV = .slice (some ⟨bn, 0, none⟩) c.n c.n ∧ x.predV = .slice (some ⟨bq, 0, none⟩) c.n c.n ∧ x.ordV = .slice (some ⟨bo, 0, none⟩) c.n c.n)
    (h : RI c S x s fv gs cs w wr) (hro : RO c S bn bq bo A L C A' L' C' w) (hf : c.fwd = true) {p : Nat} (hp : p < c.n) :
    wr.cell? ⟨x.bd, 0, none⟩ = some (.slice (some ⟨bn, 0, none⟩) c.n c.n) ∧ wr.cell? ⟨x.bd, 1, none⟩ = some (.slice (some ⟨bq, 0, none⟩) c.n c.n) ∧ ∃ a k, wr.cell? ⟨bn, p * 3 + 2, none⟩ = some (.slice a (c.nx p).length k) ∧ wr.cell? ⟨bq, p, none⟩ = some (.slice (A' p) (L' p) (C' p)) ∧ RowAt S w a (c.nx p) := by
  obtain ⟨k0, k1, kn, kp⟩ := after_list h0 h hro hp
  have hl := hro.len p hp
  have hr := hro.row p hp
  simp only [hf, if_true] at hl hr
  rw [hl] at kn
  exact ⟨k0, k1, A p, C p, kn, kp, hr⟩

theorem after_list_bwd {c : Ctx} {S : Nat → Prop} {x : Fix} {s : St} {fv : Value} {gs cs : Nat} {w wr : World} {bn bq bo : Nat} {A : Nat → Option Addr} {L C : Nat → Nat} {A' : Nat → Option Addr} {L' C' : Nat → Nat}
    (h0 : x.nodesV = .slice (some ⟨bn, 0, none⟩) c.n c.n ∧ x.predV = .slice (some ⟨bq, 0, none⟩) c.n c.n ∧ x.ordV = .slice (some ⟨bo, 0, none⟩) c.n c.n)
    (h : RI c S x s fv gs cs w wr) (hro : RO c S bn bq bo A L C A' L' C' w) (hf : c.fwd = false) {p : Nat} (hp : p < c.n) :
    wr.cell? ⟨x.bd, 0, none⟩ = some (.slice (some ⟨bn, 0, none⟩) c.n c.n) ∧ wr.cell? ⟨x.bd, 1, none⟩ = some (.slice (some ⟨bq, 0, none⟩) c.n c.n) ∧ ∃ a k, wr.cell? ⟨bn, p * 3 + 2, none⟩ = some (.slice (A p) (L p) (C p)) ∧ wr.cell? ⟨bq, p, none⟩ = some (.slice a (c.nx p).length k) ∧ RowAt S w a (c.nx p) := by
  obtain ⟨k0, k1, kn, kp⟩ := after_list h0 h hro hp
  have hl := hro.len p hp
  have hr := hro.row p hp
  simp only [hf] at hl hr
  simp only [Bool.false_eq_true, if_false] at hl hr
  rw [hl] at kp
  exact ⟨k0, k1, A' p, C' p, kn, kp, hr⟩

/-! what the inner loop's ways make of the plain state -/
theorem in_hit {c : Ctx} {p j m : Nat} {si t : St} (hj : j < (c.nx p).length) (hm : (c.nx p)[j] = m) (h : inner c p ((c.nx p).drop j) si = t) (hh : hit c m = true) : stopAt p m si = t := by
  rw [List.drop_eq_getElem_cons hj, hm, inner_hit hh] at h; exact h
theorem in_seen {c : Ctx} {p j m : Nat} {si t : St} (hj : j < (c.nx p).length) (hm : (c.nx p)[j] = m) (h : inner c p ((c.nx p).drop j) si = t) (hh : hit c m = false) (hv : m ∈ si.V) : inner c p ((c.nx p).drop (j + 1)) si = t := by
  rw [List.drop_eq_getElem_cons hj, hm, inner_seen hh hv] at h; exact h
theorem in_push {c : Ctx} {p j m : Nat} {si t : St} (hj : j < (c.nx p).length) (hm : (c.nx p)[j] = m) (h : inner c p ((c.nx p).drop j) si = t) (hh : hit c m = false) (hv : m ∉ si.V) (hw : win c m = true) : inner c p ((c.nx p).drop (j + 1)) (push p m si) = t := by
  rw [List.drop_eq_getElem_cons hj, hm, inner_push hh hv hw] at h; exact h
theorem in_out {c : Ctx} {p j m : Nat} {si t : St} (hj : j < (c.nx p).length) (hm : (c.nx p)[j] = m) (h : inner c p ((c.nx p).drop j) si = t) (hh : hit c m = false) (hv : m ∉ si.V) (hw : win c m = false) : inner c p ((c.nx p).drop (j + 1)) si = t := by
  rw [List.drop_eq_getElem_cons hj, hm, inner_out hh hv hw] at h; exact h
theorem in_end {c : Ctx} {p j : Nat} {si t : St} (hj : ¬ j < (c.nx p).length) (h : inner c p ((c.nx p).drop j) si = t) : si = t := by
  rw [List.drop_of_length_le (by omega)] at h; exact h

theorem OR.next {c : Ctx} {S : Nat → Prop} {x : Fix} {s t : St} {fv : Value} {gs cs k p : Nat} {w wr : World} (hr : run c (k + 1) s = fin c ∧ k + 1 + s.F.length = c.n) (hp : s.S.getLast? = some p) (hok : s.ok = true)
    (R : RI c S x t fv gs cs w wr) (hPI : PI c t) (ht : t = step c s) : OR c S x w k t fv gs cs wr := by
  have hS : s.S ≠ [] := by intro e; rw [e] at hp; simp at hp
  refine ⟨R, hPI, ?_, ?_⟩
  · rw [ht, ← run_step hS hok]; exact hr.1
  · have : t.F.length = s.F.length + 1 := by rw [ht, step_of hp, inner_F]; simp [pop]
    omega

theorem mark_of_mem {x : Fix} {s : St} {m : Nat} {mv : Int} (h : markOf x.now x.M s.V m = mv) (hv : m ∈ s.V) : mv = x.now := by rw [← h]; simp [markOf, hv]
theorem mark_of_not {x : Fix} {s : St} {m : Nat} {mv : Int} (h : markOf x.now x.M s.V m = mv) (hv : m ∉ s.V) (hn : x.M m < x.now) : mv ≠ x.now := by rw [← h]; simp [markOf, hv]; omega

/-- behind the append onto the stack, ahead of the store: the field as it was -/
theorem RI.before8 {c : Ctx} {S : Nat → Prop} {x : Fix} {s : St} {fv : Value} {gs cs : Nat} {w wr w1 : World} (h : RI c S x s fv gs cs w wr) (hg : wr.grownBy w1 (some gs)) :
    w1.cell? ⟨x.bd, 8, none⟩ = some (.slice (some ⟨gs, 0, none⟩) s.S.length cs) ∧ w1.frozen? ⟨x.bd, 8, none⟩ = false := by
  have hd := h.d.of_block (hg.block x.bd h.d.lt (by simp; exact h.gne.1.symm))
  exact ⟨hd.c8, hd.fz 8⟩

theorem owns_shape {w : World} {base e size : Nat} {v : Value} {n : Nat} {xs : List Value} (h : w.ownsRow base e size v n xs) : ∃ a k, v = .slice a n k := by
  rcases h.2 with ⟨rfl, rfl⟩ | ⟨g, cap, cur, rfl, _⟩
  · exact ⟨_, _, rfl⟩
  · exact ⟨_, _, rfl⟩

/-- what reach leaves: the list v it has filled, the marks, the parents; all else as it was -/
structure Done (c : Ctx) (S : Nat → Prop) (x : Fix) (t : St) (v : Value) (w w' : World) : Prop where
  mr : w'.rowIs x.bm 3 c.n (fun i => .int .i64 (markOf x.now x.M t.V i))
  pr : w'.rowIs x.bp 3 c.n (fun i => .int .i64 (parOf x.P t.ws i))
  fo : w'.ownsRow 0 3 1 v t.F.length (t.F.map iv)
  fvS : ∀ k, v.ownBlock = some k → S k ∨ w.heap.size ≤ k
  fd : v.ownBlock ≠ some x.bm ∧ v.ownBlock ≠ some x.bp
  kept : Kept S w w'

theorem RI.done9 {c : Ctx} {S : Nat → Prop} {x : Fix} {s : St} {fv : Value} {gs cs : Nat} {w wr : World} (h : RI c S x s fv gs cs w wr) :
    Done c S x s fv w (wr.setCell ⟨x.bd, 9, none⟩ fv) ∧ DAt (wr.setCell ⟨x.bd, 9, none⟩ fv) x.bd x.nodesV x.predV x.ordV x.now (.slice (some ⟨x.bm, 0, none⟩) c.n c.n) (.slice (some ⟨x.bp, 0, none⟩) c.n c.n) (.slice (some ⟨gs, 0, none⟩) s.S.length cs) fv x.backV :=
  ⟨⟨h.mr.setOther (a := ⟨x.bd, 9, none⟩) (fun e => h.ne.1 e.symm) _, h.pr.setOther (a := ⟨x.bd, 9, none⟩) (fun e => h.ne.2.1 e.symm) _, ownsRow_setCell_ne h.fo h.fd.1 _, h.fvS, h.fd.2, h.kept.setCell (.inl h.own.1) _⟩, h.d.set9 _⟩

theorem RI.done10 {c : Ctx} {S : Nat → Prop} {x : Fix} {s : St} {fv : Value} {gs cs : Nat} {w wr : World} (h : RI c S x s fv gs cs w wr) :
    Done c S x s fv w (wr.setCell ⟨x.bd, 10, none⟩ fv) ∧ DAt (wr.setCell ⟨x.bd, 10, none⟩ fv) x.bd x.nodesV x.predV x.ordV x.now (.slice (some ⟨x.bm, 0, none⟩) c.n c.n) (.slice (some ⟨x.bp, 0, none⟩) c.n c.n) (.slice (some ⟨gs, 0, none⟩) s.S.length cs) x.fwdV fv :=
  ⟨⟨h.mr.setOther (a := ⟨x.bd, 10, none⟩) (fun e => h.ne.1 e.symm) _, h.pr.setOther (a := ⟨x.bd, 10, none⟩) (fun e => h.ne.2.1 e.symm) _, ownsRow_setCell_ne h.fo h.fd.1 _, h.fvS, h.fd.2, h.kept.setCell (.inl h.own.1) _⟩, h.d.set10 _⟩

theorem Try.info3 : (Try.prog.info? 3).map (fun i => (i.zero, i.size, i.bytes)) = some (some (.int .i64 0), 1, 8) := by kernel_rfl

theorem Kept.nothing_cell {S : Nat → Prop} {w w' : World} (h : Kept S w w') (hS : ∀ k, ¬ S k) {a : Addr} {v : Value} (hc : w.cell? a = some v) : w'.cell? a = some v :=
  (h.cell (World.block_lt_of_cell? w _ hc) (hS _)).trans hc

def Nowhere : Nat → Prop := fun _ => False

end Go.Proofs.Qxb6604039a
