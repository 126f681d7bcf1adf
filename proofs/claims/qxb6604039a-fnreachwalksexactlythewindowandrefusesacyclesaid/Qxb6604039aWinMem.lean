/-
  What lies in memory while the window law walks by itself: the breadth-first queue, the places, the children; and zzHas.
-/
import Derived.Test.Qxb6604039aLawCall
import Derived.Test.Qxb6604039aPlain2
namespace Go.Proofs.Qxb6604039a
open Go.RowKit

theorem Try.info4 : (Try.prog.info? 4).map (fun i => (i.zero, i.size, i.bytes)) = some (some (.bool false), 1, 1) := by kernel_rfl

theorem make0 (n : Nat) (hn : n ≤ 1048576) (w : World) : (Instr.makeSlice 24 (.int .i64 0) (.int .i64 (n : Int))).run Try.prog w = .ok (.slice (some ⟨w.heap.size, 0, none⟩) 0 n) (w.alloc (.cells (madeCells #[.int .i64 0] n) 3)) := by
  obtain ⟨i, hi, hzz⟩ := Option.map_eq_some_iff.1 Try.info3
  simp only [Prod.mk.injEq] at hzz
  obtain ⟨hz, hs, hb⟩ := hzz
  have hr := run_make (P := Try.prog) w 24 3 i _ Try.underlying24 hi hz .i64 .i64 0 n (by omega) (by omega) (by rw [hb]; omega) (by omega)
  simp only [Int.toNat_natCast, hs, Int.toNat_zero, Nat.mul_one] at hr
  exact hr

/-- inR and the queue -/
structure BM (n : Nat) (Q : List Nat) (bR gq cq : Nat) (w0 wr : World) : Prop where
  ir : wr.rowIs bR 4 n (fun i => .bool (decide (i ∈ Q)))
  qo : wr.ownsRow 0 3 1 (.slice (some ⟨gq, 0, none⟩) Q.length cq) Q.length (Q.map iv)
  ne : gq ≠ bR
  qN : w0.heap.size ≤ gq
  bN : w0.heap.size ≤ bR
  kept : Kept Nowhere w0 wr

/-- the world as start is laid on the queue -/
def W0 (w0 : World) (n st : Nat) (o2 : Obj) : World := ((w0.alloc (.cells ((madeCells #[.bool false] n).setIfInBounds st (.bool true)) 4)).alloc (.cells (madeCells #[.int .i64 0] n) 3)).alloc o2

theorem q0 (w0 : World) (n st : Nat) (o2 : Obj) (hn : n ≤ 1048576) : (W0 w0 n st o2).ownsRow 0 3 1 (.slice (some ⟨w0.heap.size + 1, 0, none⟩) 0 n) 0 [] := by
  have h := (World.ownsRow_made (base := 0) (e := 3) (size := 1) (w0.alloc (.cells ((madeCells #[.bool false] n).setIfInBounds st (.bool true)) 4)) (madeCells #[.int .i64 0] n) n (Nat.zero_le _) (by unfold maxLen; omega) (by rw [size_madeCells]; omega)).alloc o2
  rw [Deep.nblk_alloc] at h
  exact h

theorem BM.start {n st gq cq : Nat} {w0 w2 : World} {o2 : Obj}
    (ho : w2.ownsRow 0 3 1 (.slice (some ⟨gq, 0, none⟩) (0 + 1) cq) (0 + 1) ([] ++ [iv st])) (hg : (W0 w0 n st o2).grownBy w2 (some (w0.heap.size + 1))) (hw : some (w0.heap.size + 1) = some gq ∨ (W0 w0 n st o2).heap.size ≤ gq) :
    BM n [st] w0.heap.size gq cq w0 w2 := by
  have s1 : (W0 w0 n st o2).heap.size = w0.heap.size + 3 := by unfold W0; rw [Deep.nblk_alloc, Deep.nblk_alloc, Deep.nblk_alloc]
  have hk1 : Kept Nowhere w0 (W0 w0 n st o2) := ((((Kept.refl _ _).alloc _).alloc _).alloc _)
  have hgq : w0.heap.size + 1 ≤ gq := by rcases hw with hw | hw; (simp at hw; omega); omega
  refine ⟨?_, ho, by omega, by omega, Nat.le_refl _, hk1.grown hg (fun k hk => by simp at hk; exact .inr (by omega))⟩
  have r1 : (W0 w0 n st o2).rowIs w0.heap.size 4 n (fun j => if j = st then .bool true else .bool false) := by
    have r0 := ((World.rowIs_made w0 (.bool false) n 4).set st (.bool true))
    rw [World.setCell_alloc_at _ _ _ _ _ rfl] at r0
    exact (r0.alloc _).alloc _
  refine (r1.of_block (hg.block _ (by omega) (by simp))).congr (fun i _ => ?_)
  by_cases e : i = st <;> simp [e]

theorem BM.inR {n : Nat} {Q : List Nat} {bR gq cq : Nat} {w0 wr : World} (h : BM n Q bR gq cq w0 wr) {m : Nat} (hm : m < n) : wr.cell? ⟨bR, m, none⟩ = some (.bool (decide (m ∈ Q))) := h.ir.cell hm
theorem BM.que {n : Nat} {Q : List Nat} {bR gq cq : Nat} {w0 wr : World} (h : BM n Q bR gq cq w0 wr) {j : Nat} (hj : j < Q.length) : wr.cell? ⟨gq, j, none⟩ = some (.int .i64 (Q[j] : Nat)) := by
  rw [h.qo.cellAt j (by omega)]; simp [hj, iv]

/-- behind the store into inR -/
theorem BM.marked {n : Nat} {Q : List Nat} {bR gq cq : Nat} {w0 wr : World} (h : BM n Q bR gq cq w0 wr) (m : Nat) (o : Obj) :
    ((wr.setCell ⟨bR, m, none⟩ (.bool true)).alloc o).ownsRow 0 3 1 (.slice (some ⟨gq, 0, none⟩) Q.length cq) Q.length (Q.map iv) :=
  (ownsRow_setCell_ne h.qo (by simp [Value.ownBlock]; exact h.ne) _).alloc o

theorem BM.grow {n : Nat} {Q : List Nat} {bR gq cq : Nat} {w0 wr : World} (h : BM n Q bR gq cq w0 wr) {m : Nat} {o : Obj} {g2 c2 : Nat} {w2 : World}
    (ho : w2.ownsRow 0 3 1 (.slice (some ⟨g2, 0, none⟩) (Q.length + 1) c2) (Q.length + 1) (Q.map iv ++ [iv m])) (hg : ((wr.setCell ⟨bR, m, none⟩ (.bool true)).alloc o).grownBy w2 (some gq)) (hw : some gq = some g2 ∨ ((wr.setCell ⟨bR, m, none⟩ (.bool true)).alloc o).heap.size ≤ g2) :
    BM n (Q ++ [m]) bR g2 c2 w0 w2 := by
  have hs : ((wr.setCell ⟨bR, m, none⟩ (.bool true)).alloc o).heap.size = wr.heap.size + 1 := by rw [Deep.nblk_alloc, Deep.nblk_setCell]
  have hk := h.kept.size
  have hlt := h.ir.lt
  have hbN := h.bN
  have hqN := h.qN
  have hne := h.ne
  have hk1 : Kept Nowhere w0 ((wr.setCell ⟨bR, m, none⟩ (.bool true)).alloc o) := (h.kept.setCell (.inr hbN) _).alloc o
  refine ⟨?_, by simpa using ho, ?_, ?_, hbN, hk1.grown hg (fun k hk => by simp at hk; exact .inr (by omega))⟩
  · refine ((((h.ir.set m (.bool true)).alloc o).of_block (hg.block bR (by omega) (by simp; exact fun e => hne e.symm)))).congr (fun i _ => ?_)
    by_cases e : i = m <;> simp [e]
  · rcases hw with hw | hw
    · simp at hw; omega
    · omega
  · rcases hw with hw | hw
    · simp at hw; omega
    · omega

set_option maxRecDepth 100000 in
set_option maxHeartbeats 400000 in
/-- zzHas finds what is there -/
theorem has_yes (b o k : Nat) (l : List Nat) (v : Int) (w : World) (hl : l.length ≤ 1048576) (hv : ∃ m ∈ l, (m : Int) = v) (hc : ∀ j (h : j < l.length), w.cell? ⟨b, o + j, none⟩ = some (.int .i64 (l[j] : Nat))) :
    Calls Try.prog 25 #[.slice (some ⟨b, o, none⟩) l.length k, .int .i64 v] w fun e w' => e = .returned (.bool true) ∧ w' = w := by
  have HV : Hid (∃ m ∈ l, (m : Int) = v) := hv
  have HC : Hid (∀ j (h : j < l.length), w.cell? ⟨b, o + j, none⟩ = some (.int .i64 (l[j] : Nat))) := hc
  clear hv hc
  go_enter Try.func25, Try.ntmps25
  go_wp2
  go_loopg [5] l.length (fun gk i wr => ∃ j : Nat, j + gk = l.length ∧ i = .int .i64 j ∧ wr = w ∧ Hid (∀ t (h : t < l.length), t < j → (l[t] : Int) ≠ v))
  case atStart => exact ⟨0, by omega, rfl, rfl, fun t h ht => by omega⟩
  case round =>
    obtain ⟨j, hjk, rfl, rfl, HN⟩ := hrel
    by_cases hj : j < l.length
    · have hc := HC.out j hj
      obtain ⟨m, hm⟩ : ∃ m, l[j] = m := ⟨_, rfl⟩
      rw [hm] at hc
      have HM : Hid (l[j] = m) := hm
      have hjI : (j : Int) < (l.length : Int) := by omega
      clear hm
      obtain ⟨q, rfl⟩ : ∃ q, gk = q + 1 := ⟨gk - 1, by omega⟩
      by_cases hmv : (m : Int) = v
      · have hb : ((m : Int) == v) = true := by simp [hmv]
        clear hmv
        go_wp2
        go_ret
        exact ⟨rfl, rfl⟩
      · have hb : ((m : Int) == v) = false := by simpa using hmv
        have HMV : Hid ((m : Int) ≠ v) := hmv
        clear hmv
        go_wp2
        go_roundg q
        case measure => omega
        case rel =>
          refine ⟨j + 1, by omega, by go_num, rfl, fun t h ht => ?_⟩
          by_cases e : t = j
          · subst e; rw [HM.out]; exact HMV.out
          · exact HN.out t h (by omega)
    · exfalso
      obtain ⟨m, hm, hv⟩ := HV.out
      obtain ⟨t, ht, rfl⟩ := List.getElem_of_mem hm
      exact HN.out t ht (by omega) hv

/-- node p's list, as zzNext hands it back -/
theorem RZ.next_fwd {c : Ctx} {S : Nat → Prop} {bs bq bo : Nat} {A : Nat → Option Addr} {L C : Nat → Nat} {A' : Nat → Option Addr} {L' C' : Nat → Nat} {w : World} (h : RZ c S bs bq bo A L C A' L' C' w) (hf : c.fwd = true) {p : Nat} (hp : p < c.n) :
    ∃ a k, w.cell? ⟨bs, p, none⟩ = some (.slice a (c.nx p).length k) ∧ RowAt S w a (c.nx p) := by
  have hl := h.len p hp
  have hr := h.row p hp
  simp only [hf, if_true] at hl hr
  exact ⟨A p, C p, by rw [h.succ p hp, hl], hr⟩

theorem RZ.next_bwd {c : Ctx} {S : Nat → Prop} {bs bq bo : Nat} {A : Nat → Option Addr} {L C : Nat → Nat} {A' : Nat → Option Addr} {L' C' : Nat → Nat} {w : World} (h : RZ c S bs bq bo A L C A' L' C' w) (hf : c.fwd = false) {p : Nat} (hp : p < c.n) :
    ∃ a k, w.cell? ⟨bq, p, none⟩ = some (.slice a (c.nx p).length k) ∧ RowAt S w a (c.nx p) := by
  have hl := h.len p hp
  have hr := h.row p hp
  simp only [hf] at hl hr
  simp only [Bool.false_eq_true, if_false] at hl hr
  exact ⟨A' p, C' p, by rw [h.pred p hp, hl], hr⟩

theorem RZ.kept0 {c : Ctx} {T : Nat → Prop} {bs bq bo : Nat} {A : Nat → Option Addr} {L C : Nat → Nat} {A' : Nat → Option Addr} {L' C' : Nat → Nat} {w w' : World} (h : RZ c T bs bq bo A L C A' L' C' w) (k : Kept Nowhere w w') : RZ c T bs bq bo A L C A' L' C' w' :=
  h.kept (k.mono (fun _ _ h => h.elim))

/-- WHAT THE LAW READS BEHIND ZZReach -/
structure PM (c : Ctx) (n Fl : Nat) (Q : List Nat) (g4 g5 gF bR g8 g9 : Nat) (now : Int) (M P : Nat → Int) (w0 w : World) : Prop where
  mr : w.rowIs g4 3 n (fun i => .int .i64 (markOf now M (fin c).V i))
  pr : w.rowIs g5 3 n (fun i => .int .i64 (parOf P (fin c).ws i))
  fo : ∀ j, j < Fl → w.cell? ⟨gF, j, none⟩ = some (.int .i64 ((fin c).F.getD j 0 : Nat))
  ir : w.rowIs bR 4 n (fun i => .bool (decide (i ∈ Q)))
  mw : w.rowIs g8 3 n (fun i => .int .i64 (M i))
  pw : w.rowIs g9 3 n (fun i => .int .i64 (P i))
  bel : Below w0.heap.size w0 w

theorem Below.kept {B : Nat} {w0 w w' : World} (h : Below B w0 w) (k : Kept Nowhere w w') (hB : B ≤ w.heap.size) : Below B w0 w' :=
  ⟨k.os.trans h.os, k.tape.trans h.tape, k.output.trans h.output, Nat.le_trans h.size k.size, fun i hi => (k.block i (by omega) (fun h => h)).trans (h.block i hi)⟩

theorem PM.kept {c : Ctx} {n Fl : Nat} {Q : List Nat} {g4 g5 gF bR g8 g9 : Nat} {now : Int} {M P : Nat → Int} {w0 w w' : World} (h : PM c n Fl Q g4 g5 gF bR g8 g9 now M P w0 w) (k : Kept Nowhere w w') : PM c n Fl Q g4 g5 gF bR g8 g9 now M P w0 w' :=
  ⟨k.row h.mr (fun h => h), k.row h.pr (fun h => h), fun j hj => k.nothing_cell (fun _ h => h) (h.fo j hj), k.row h.ir (fun h => h), k.row h.mw (fun h => h), k.row h.pw (fun h => h), Below.kept h.bel k h.bel.size⟩

theorem ints_keptS {S : Nat → Prop} {w w' : World} {a : Option Addr} {n : Nat} {f : Nat → Int} (h : IntsAt w a n f) (k : Kept S w w') (hS : ∀ j, (Value.slice a n n).ownBlock = some j → ¬ S j) : IntsAt w' a n f := by
  intro hx
  obtain ⟨b, o, ha, hc⟩ := h hx
  exact ⟨b, o, ha, fun j hj => cell_kept k (hc j hj) (hS b (by rw [ha]; rfl))⟩

theorem own_any {a : Option Addr} {n k n' k' : Nat} : (Value.slice a n k).ownBlock = (Value.slice a n' k').ownBlock := by cases a <;> rfl

theorem owns_some {w : World} {a : Option Addr} {n k : Nat} {xs : List Value} (h : w.ownsRow 0 3 1 (.slice a n k) n xs) (hn : n ≠ 0) : ∃ g, a = some ⟨g, 0, none⟩ := by
  rcases h.2 with ⟨_, h0⟩ | ⟨g, cap, cur, hv, _⟩
  · exact absurd h0 hn
  · simp at hv; exact ⟨g, hv.1⟩

theorem fo_cells {w : World} {g n k : Nat} {F : List Nat} (h : w.ownsRow 0 3 1 (.slice (some ⟨g, 0, none⟩) n k) n (F.map iv)) : ∀ j, j < n → w.cell? ⟨g, j, none⟩ = some (.int .i64 (F.getD j 0 : Nat)) := by
  intro j hj
  have hl := h.1
  simp at hl
  rw [h.cellAt j (by omega)]
  simp [iv, List.getD_eq_getElem?_getD, List.getElem?_eq_getElem (show j < F.length by omega)]

/-- where a node stands in the list, as the law writes it down -/
def atOf (F : List Nat) (k : Nat) (i : Nat) : Int := if i ∈ F.take k then ((F.idxOf i : Nat) : Int) else -1

theorem mem_take_succ {F : List Nat} {k : Nat} (hk : k < F.length) (i : Nat) : i ∈ F.take (k + 1) ↔ i ∈ F.take k ∨ i = F[k] := by
  rw [List.take_succ_eq_append_getElem hk, List.mem_append, List.mem_singleton]

theorem atOf_set {F : List Nat} {k : Nat} (hk : k < F.length) (hn : F.Nodup) (i : Nat) : atOf F (k + 1) i = if i = F[k] then (k : Int) else atOf F k i := by
  unfold atOf
  by_cases e : i = F[k]
  · rw [if_pos ((mem_take_succ hk i).2 (.inr e)), if_pos e]
    subst e
    rw [List.Nodup.idxOf_getElem hn k hk]
  · rw [if_neg e]
    by_cases h : i ∈ F.take k
    · rw [if_pos ((mem_take_succ hk i).2 (.inl h)), if_pos h]
    · rw [if_neg (fun h2 => by rcases (mem_take_succ hk i).1 h2 with h2 | h2; exact h h2; exact e h2), if_neg h]

theorem atOf_new {F : List Nat} {k : Nat} (hk : k < F.length) (hn : F.Nodup) : atOf F k F[k] = -1 := by
  unfold atOf
  rw [if_neg]
  intro hm
  obtain ⟨i, hi, he⟩ := List.getElem_of_mem hm
  simp at hi
  rw [List.getElem_take] at he
  have h1 := List.Nodup.idxOf_getElem hn i (by omega)
  have h2 := List.Nodup.idxOf_getElem hn k hk
  rw [he] at h1
  omega

theorem atOf_all {F : List Nat} (i : Nat) : atOf F F.length i = if i ∈ F then ((F.idxOf i : Nat) : Int) else -1 := by unfold atOf; rw [List.take_length]

end Go.Proofs.Qxb6604039a
