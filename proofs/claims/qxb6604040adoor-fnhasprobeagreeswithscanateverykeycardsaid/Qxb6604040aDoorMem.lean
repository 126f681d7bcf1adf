/-
  Memory words for this seat's walks: what a stretch of code may have written ('Kept'), and one law for 'append' of one integer onto a row of the call's own.
-/
import Derived.WalkKit
import Derived.Deep.OwnRows
import Derived.Deep.LoopGhost
import Derived.Deep.Draws
import Derived.ArgAppend
import Derived.Below
namespace Go.Proofs.Qxb6604040aDoor
open Go.RowKit

/-- w' is w behind draws. -/
def Drawn (w w' : World) : Prop := w'.heap = w.heap ∧ w'.tape = w.tape ∧ w'.os = w.os ∧ w'.output = w.output
theorem Drawn.refl (w : World) : Drawn w w := ⟨rfl, rfl, rfl, rfl⟩
theorem Drawn.drew {w w' : World} (h : Drawn w w') : Drawn w w'.drew := h
theorem Drawn.drewN {w w' : World} (h : Drawn w w') (n : Nat) : Drawn w (w'.drewN n) := by
  induction n with
  | zero => exact h
  | succ n ih => exact ih

/-- All that lay in w lies in w' as it was, but for the blocks of S. -/
structure Kept (S : Nat → Prop) (w w' : World) : Prop where
  os : w'.os = w.os
  tape : w'.tape = w.tape
  output : w'.output = w.output
  size : w.heap.size ≤ w'.heap.size
  block : ∀ k, k < w.heap.size → ¬ S k → w'.heap[k]? = w.heap[k]?

namespace Kept
variable {S : Nat → Prop} {w w' w'' : World}
theorem refl (S : Nat → Prop) (w : World) : Kept S w w := ⟨rfl, rfl, rfl, Nat.le_refl _, fun _ _ _ => rfl⟩
theorem trans (h : Kept S w w') (k : Kept S w' w'') : Kept S w w'' :=
  ⟨k.os.trans h.os, k.tape.trans h.tape, k.output.trans h.output, Nat.le_trans h.size k.size, fun i hi hs => (k.block i (Nat.lt_of_lt_of_le hi h.size) hs).trans (h.block i hi hs)⟩
theorem mono {T : Nat → Prop} (h : Kept S w w') (hst : ∀ k, k < w.heap.size → S k → T k) : Kept T w w' :=
  ⟨h.os, h.tape, h.output, h.size, fun k hk hs => h.block k hk (fun s => hs (hst k hk s))⟩
theorem drawn (h : Kept S w w') (k : Drawn w' w'') : Kept S w w'' :=
  ⟨k.2.2.1.trans h.os, k.2.1.trans h.tape, k.2.2.2.trans h.output, by rw [k.1]; exact h.size, fun i hi hs => by rw [k.1]; exact h.block i hi hs⟩
theorem drew (h : Kept S w w') : Kept S w w'.drew := h.drawn (Drawn.refl _)
theorem drewN (h : Kept S w w') (n : Nat) : Kept S w (w'.drewN n) := h.drawn ((Drawn.refl _).drewN n)
theorem alloc (h : Kept S w w') (o : Obj) : Kept S w (w'.alloc o) :=
  ⟨h.os, h.tape, h.output, by rw [Deep.nblk_alloc]; have := h.size; omega, fun k hk hs => (Deep.blk_alloc_lt _ _ _ (Nat.lt_of_lt_of_le hk h.size)).trans (h.block k hk hs)⟩
theorem setCell (h : Kept S w w') {a : Addr} (ha : S a.block ∨ w.heap.size ≤ a.block) (v : Value) : Kept S w (w'.setCell a v) :=
  ⟨h.os, h.tape, h.output, by rw [Deep.nblk_setCell]; exact h.size, fun k hk hs => by
    rw [Deep.blk_setCell_other _ _ _ _ (by rintro rfl; rcases ha with ha | ha; exact hs ha; omega)]
    exact h.block k hk hs⟩
/-- behind a law on make or append: the row that is written lies in S, or is new. -/
theorem grown {row : Option Nat} (h : Kept S w w') (hg : w'.grownBy w'' row) (hr : ∀ k, row = some k → S k ∨ w.heap.size ≤ k) : Kept S w w'' :=
  ⟨hg.os.trans h.os, hg.tape.trans h.tape, hg.output.trans h.output, Nat.le_trans h.size hg.size, fun k hk hs =>
    (hg.block k (Nat.lt_of_lt_of_le hk h.size) (fun e => by rcases hr k e.symm with hr | hr; exact hs hr; omega)).trans (h.block k hk hs)⟩
theorem cell (h : Kept S w w') {a : Addr} (ha : a.block < w.heap.size) (hs : ¬ S a.block) : w'.cell? a = w.cell? a := World.cell?_of_block (h.block _ ha hs)
theorem row (h : Kept S w w') {b : Nat} {t : TypeId} {n : Nat} {f : Nat → Value} (hr : w.rowIs b t n f) (hs : ¬ S b) : w'.rowIs b t n f := hr.of_block (h.block b hr.lt hs)
theorem below {B : Nat} (h : Kept S w w') (hB : B ≤ w.heap.size) (hS : ∀ k, k < w.heap.size → S k → B ≤ k) : Below B w w' :=
  ⟨h.os, h.tape, h.output, h.size, fun k hk => h.block k (by omega) (fun s => by have := hS k (by omega) s; omega)⟩
theorem of_below {B : Nat} (h : Below B w w') : Kept (fun k => B ≤ k) w w' :=
  ⟨h.os, h.tape, h.output, h.size, fun k _ hs => h.block k (by omega)⟩
/-- an owned row that is not written -/
theorem owns {base e size : Nat} {v : Value} {n : Nat} {xs : List Value} (h : Kept S w w') (ho : w.ownsRow base e size v n xs) (hs : ∀ k, v.ownBlock = some k → ¬ S k) : w'.ownsRow base e size v n xs := by
  refine ⟨ho.1, ?_⟩
  rcases ho.2 with hn | ⟨g, cap, cur, rfl, hb, hg, rest⟩
  · exact .inl hn
  · refine .inr ⟨g, cap, cur, rfl, hb, ?_, rest⟩
    rw [h.block g (Array.getElem?_eq_some_iff.1 hg).1 (hs g rfl)]
    exact hg
end Kept

theorem owns_drawn {base e size : Nat} {w w' : World} {v : Value} {n : Nat} {xs : List Value} (ho : w.ownsRow base e size v n xs) (k : Drawn w w') : w'.ownsRow base e size v n xs := by
  unfold World.ownsRow at *
  rw [k.1]; exact ho
theorem row_drawn {w w' : World} {b : Nat} {t : TypeId} {n : Nat} {f : Nat → Value} (hr : w.rowIs b t n f) (k : Drawn w w') : w'.rowIs b t n f := hr.of_block (by rw [k.1])

/-- 'x = append(x, v)' of ONE element of one cell onto nil or onto a row of the call's own: what becomes of it, and WHERE it lies then: in its old block, or in a new one. -/
theorem wpList_append_one {P : Program} (w : World) {ops : Array Oper} {rest : List Oper} {o : Oper} {a : Act} {Q : Exit → Act → World → Prop}
    (hg : o.guard = none) (s x : Operand) (t : TypeId) (hop : o.op = Op.call { callee := Callee.builtin Builtin.append, args := #[s, x], argTypes := #[t, t] })
    (base : Nat) (e : TypeId) (i : TypeInfo) (z : Value) (bytes : Nat) (h1 : P.underlying t = some (.slice e)) (h2 : P.info? e = some i) (h3 : i.zero = some z) (h4 : i.size = 1) (h5 : i.bytes = bytes) (h6 : z.cells.size = 1)
    (v : Value) (n : Nat) (xs : List Value) (hs : a.eval s = v) (hown : w.ownsRow base e 1 v n xs) (ad : Addr) (u : Value) (hx : a.eval x = .slice (some ad) 1 1) (hc : w.cell? ad = some u) (h1c : u.oneCell' = true)
    (b1 : n + 1 ≤ maxLen) (b2 : (n + 1) * bytes ≤ 140737488355328) (b4 : base ≤ w.heap.size)
    (hK : ∀ g cap w', w'.ownsRow base e 1 (.slice (some ⟨g, 0, none⟩) (n + 1) cap) (n + 1) (xs ++ [u]) → w.grownBy w' v.ownBlock → (v.ownBlock = some g ∨ w.heap.size ≤ g) → wpList P ops Q rest (a.put o.dst (.slice (some ⟨g, 0, none⟩) (n + 1) cap)) w') :
    wpList P ops Q (o :: rest) a w := by
  have hnews : ∀ j y, [u][j]? = some y → w.cell? (ad.add j) = some y := by
    intro j y hj
    match j, hj with
    | 0, hj => simp at hj; subst hj; simpa [Addr.add] using hc
  have h1c' : ∀ y ∈ [u], y.oneCell' = true := by intro y hy; simp at hy; subst hy; exact h1c
  have hgrow : ∀ (ao : Option Addr) (cap : Nat), v = .slice ao n cap → (ao = none → n = 0 ∧ cap = 0) → (∀ b, ao = some b → ∀ j y, xs[j]? = some y → w.cell? (b.add j) = some y) → cap < n + 1 → wpList P ops Q (o :: rest) a w := by
    intro ao cap hv hnone holds hfull
    refine wpList_append_grows w hg s x t hop e i z 1 bytes h1 h2 h3 h4 h5 h6 (by decide) ao n cap xs (by rw [hs, hv]) hnone hown.1 holds ad 1 1 [u] hx rfl hnews h1c' hfull b1 b2 ?_
    intro v' w' ho hgr
    rcases ho.2 with ⟨_, h0⟩ | ⟨g, cap', cur, rfl, hb, hgg, rest'⟩
    · omega
    · refine hK g cap' w' ⟨ho.1, .inr ⟨g, cap', cur, rfl, by omega, hgg, rest'⟩⟩ ?_ (.inr hb)
      exact ⟨hgr.os, hgr.tape, hgr.output, hgr.size, fun k hk _ => hgr.block k hk (by simp)⟩
  rcases hown.2 with ⟨rfl, h0⟩ | ⟨g, cap, cur, rfl, hb, hgg, hle, hm, hsz, htk⟩
  · exact hgrow none 0 (by rw [h0]) (fun _ => ⟨h0, rfl⟩) (fun b hb => by simp at hb) (by omega)
  · by_cases hfit : n + 1 ≤ cap
    · refine wpList_append_fits w hg s x t hop base e i 1 h1 h2 h4 g n cap xs hs hown ad 1 1 [u] hx rfl hnews h1c' hfit ?_
      intro w' ho hgr
      exact hK g cap w' ho hgr (.inl rfl)
    · refine hgrow (some ⟨g, 0, none⟩) cap rfl (fun h => by simp at h) (fun b hb j y hj => ?_) (by omega)
      simp at hb; subst hb
      exact hown.cells rfl j y hj

def Nowhere (_ : Nat) : Prop := False
theorem Kept.nothing_cell {S : Nat → Prop} {w w' : World} (h : Kept S w w') (hS : ∀ k, ¬ S k) {a : Addr} {v : Value} (hc : w.cell? a = some v) : w'.cell? a = some v :=
  (h.cell (World.block_lt_of_cell? w _ hc) (hS _)).trans hc
theorem cell_kept {S : Nat → Prop} {w w' : World} (h : Kept S w w') {b o : Nat} {v : Value} (hc : w.cell? ⟨b, o, none⟩ = some v) (hs : ¬ S b) : w'.cell? ⟨b, o, none⟩ = some v :=
  (h.cell (World.block_lt_of_cell? w _ hc) hs).trans hc
end Go.Proofs.Qxb6604040aDoor
