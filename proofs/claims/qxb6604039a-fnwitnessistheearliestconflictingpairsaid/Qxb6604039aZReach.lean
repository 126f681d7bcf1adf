/-
  ZZReach: the nodes laid, the dynamicOrder made, reach called, its fields handed back.
-/
import Derived.Test.Qxb6604039aReach
import Derived.Test.Qxb6604039aReachB
import Derived.Test.Qxb6604039aLeaf2
namespace Go.Proofs.Qxb6604039a
open Go.RowKit

theorem Try.info60 : (Try.prog.info? 60).map (fun i => (i.zero, i.size, i.bytes)) = some (some (.agg #[.int .u64 0, .bool false, .slice none 0 0]), 3, 40) := by kernel_rfl

/-- what ZZReach only reads -/
structure RZ (c : Ctx) (S : Nat → Prop) (bs bq bo : Nat) (A : Nat → Option Addr) (L C : Nat → Nat) (A' : Nat → Option Addr) (L' C' : Nat → Nat) (w : World) : Prop where
  nbs : ¬ S bs
  nbq : ¬ S bq
  nbo : ¬ S bo
  succ : ∀ i, i < c.n → w.cell? ⟨bs, i, none⟩ = some (.slice (A i) (L i) (C i))
  pred : ∀ i, i < c.n → w.cell? ⟨bq, i, none⟩ = some (.slice (A' i) (L' i) (C' i))
  ord : ∀ i, i < c.n → w.cell? ⟨bo, i, none⟩ = some (.int .i64 (c.ord i))
  len : ∀ i, i < c.n → (if c.fwd then L i else L' i) = (c.nx i).length
  row : ∀ i, i < c.n → RowAt S w (if c.fwd then A i else A' i) (c.nx i)
  lt : ∀ i, i < c.n → ∀ m ∈ c.nx i, m < c.n
  big : ∀ i, i < c.n → (c.nx i).length ≤ 1048576
  nbig : c.n ≤ 1048576

theorem make60 (n : Nat) (hn : n ≤ 1048576) (w : World) : (Instr.makeSlice 56 (.int .i64 (n : Int)) (.int .i64 (n : Int))).run Try.prog w = .ok (.slice (some ⟨w.heap.size, 0, none⟩) n n) (w.alloc (.cells (madeCells #[.int .u64 0, .bool false, .slice none 0 0] (n * 3)) 60)) := by
  obtain ⟨i, hi, hzz⟩ := Option.map_eq_some_iff.1 Try.info60
  simp only [Prod.mk.injEq] at hzz
  obtain ⟨hz, hs, hb⟩ := hzz
  have hr := run_make (P := Try.prog) w 56 60 i _ Try.underlying56 hi hz .i64 .i64 n n (by omega) (Int.le_refl _) (by rw [hb]; omega) (by omega)
  simp only [Int.toNat_natCast, hs] at hr
  exact hr

theorem rowIs_of_size {w : World} {c : Array Value} {t : TypeId} : (w.alloc (.cells c t)).rowIs w.heap.size t c.size (fun i => c.getD i undef) :=
  World.rowIs_alloc w c t _ (fun i hi => by simp [Array.getD, hi])

/-- the nodes laid so far -/
def NodesAt (bn n j : Nat) (A : Nat → Option Addr) (L C : Nat → Nat) (w : World) : Prop :=
  ∃ f, w.rowIs bn 60 (n * 3) f ∧ ∀ i, i < j → f (i * 3 + 2) = .slice (A i) (L i) (C i)

theorem Done.of {c : Ctx} {S S' : Nat → Prop} {x x' : Fix} {t : St} {v : Value} {w wr W w' : World} {o : Obj} (h : Done c S' x' t v W w') (hW : W = wr.alloc o) (hK : Kept Nowhere w wr) (hS : ∀ k, k < w.heap.size → S' k → S k) (hS2 : ∀ k, S' k → S k ∨ w.heap.size ≤ k)
    (ex : x'.bm = x.bm ∧ x'.bp = x.bp ∧ x'.now = x.now ∧ x'.M = x.M ∧ x'.P = x.P) : Done c S x t v w w' := by
  obtain ⟨e1, e2, e3, e4, e5⟩ := ex
  have hsz : w.heap.size ≤ W.heap.size := by rw [hW, Deep.nblk_alloc]; have := hK.size; omega
  refine ⟨by rw [← e1, ← e3, ← e4]; exact h.mr, by rw [← e2, ← e5]; exact h.pr, h.fo, fun k hk => ?_, by rw [← e1, ← e2]; exact h.fd, ?_⟩
  · rcases h.fvS k hk with hs | hs
    · exact hS2 k hs
    · exact .inr (by omega)
  · have k1 : Kept S w W := by rw [hW]; exact (hK.mono (fun _ _ h => h.elim)).alloc o
    have hk := h.kept
    exact ⟨hk.os.trans k1.os, hk.tape.trans k1.tape, hk.output.trans k1.output, Nat.le_trans k1.size hk.size, fun k hk' hs => (hk.block k (by omega) (fun s => hs (hS k hk' s))).trans (k1.block k hk' hs)⟩

theorem Done.drawn {c : Ctx} {S : Nat → Prop} {x : Fix} {t : St} {v : Value} {w w' w'' : World} (h : Done c S x t v w w') (k : Drawn w' w'') : Done c S x t v w w'' :=
  ⟨row_drawn h.mr k, row_drawn h.pr k, owns_drawn h.fo k, h.fvS, h.fd, h.kept.drawn k⟩

theorem RowAt.mono {S S' : Nat → Prop} {w : World} {a : Option Addr} {l : List Nat} (h : RowAt S w a l) (hS : ∀ k, k < w.heap.size → S' k → S k) : RowAt S' w a l := by
  rcases h with h | ⟨b, o, ha, hs, hc⟩
  · exact .inl h
  · by_cases hl : l = []
    · exact .inl hl
    · have h0 : 0 < l.length := List.length_pos_iff.2 hl
      have hb := World.block_lt_of_cell? w _ (hc 0 h0)
      exact .inr ⟨b, o, ha, fun s => hs (hS b hb s), hc⟩

/-- what reach reads, as it is called -/
theorem RZ.ro {c : Ctx} {S : Nat → Prop} {bs bq bo : Nat} {A : Nat → Option Addr} {L C : Nat → Nat} {A' : Nat → Option Addr} {L' C' : Nat → Nat} {w wr : World} {o : Obj}
    (h : RZ c S bs bq bo A L C A' L' C' w) (hK : Kept Nowhere w wr) (hsz : wr.heap.size = w.heap.size + 1) (hn : NodesAt w.heap.size c.n c.n A L C wr) (h0 : 0 < c.n) :
    RO c (fun k => (S k ∧ k < w.heap.size) ∨ k = wr.heap.size) w.heap.size bq bo A L C A' L' C' (wr.alloc o) := by
  have k2 : Kept Nowhere w (wr.alloc o) := hK.alloc o
  have lq := World.block_lt_of_cell? w _ (h.pred 0 h0)
  have lo := World.block_lt_of_cell? w _ (h.ord 0 h0)
  have hlq : bq < w.heap.size := lq
  have hlo : bo < w.heap.size := lo
  obtain ⟨f, hf1, hf2⟩ := hn
  refine ⟨by omega, fun hs => ?_, fun hs => ?_, fun i hi => ?_, fun i hi => k2.nothing_cell (fun _ h => h) (h.pred i hi), fun i hi => k2.nothing_cell (fun _ h => h) (h.ord i hi), h.len, fun i hi => ?_, h.lt, h.big, h.nbig⟩
  · rcases hs with ⟨hs, _⟩ | hs
    · exact h.nbq hs
    · omega
  · rcases hs with ⟨hs, _⟩ | hs
    · exact h.nbo hs
    · omega
  · rw [(hf1.alloc o).cell (by omega), hf2 i hi]
  · have r1 : RowAt (fun k => (S k ∧ k < w.heap.size) ∨ k = wr.heap.size) w _ (c.nx i) := (h.row i hi).mono (fun k hk hs => by rcases hs with ⟨hs, _⟩ | hs; exact hs; omega)
    rcases r1 with r1 | ⟨b, o', ha, hs, hc⟩
    · exact .inl r1
    · exact .inr ⟨b, o', ha, hs, fun j hj => k2.nothing_cell (fun _ h => h) (hc j hj)⟩

theorem reach_call_fwd (c : Ctx) (S : Nat → Prop) (x : Fix) (bs bq bo : Nat) (A : Nat → Option Addr) (L C : Nat → Nat) (A' : Nat → Option Addr) (L' C' : Nat → Nat) (stamp : Int) (fa : Option Addr) (fl fc : Nat) (ba : Option Addr) (bl bc : Nat) (fx : List Value) (w wr : World)
    (hrz : RZ c S bs bq bo A L C A' L' C' w) (hnow : x.now = stamp + 1)
    (hF : w.ownsRow 0 3 1 (.slice fa fl fc) fl fx ∧ (∀ k, (Value.slice fa fl fc).ownBlock = some k → S k) ∧ ((Value.slice fa fl fc).ownBlock ≠ some x.bm ∧ (Value.slice fa fl fc).ownBlock ≠ some x.bp) ∧ S x.bm ∧ S x.bp ∧ x.bm ≠ x.bp ∧ ∀ i, i < c.n → x.M i < x.now)
    (hR : w.rowIs x.bm 3 c.n (fun i => .int .i64 (x.M i)) ∧ w.rowIs x.bp 3 c.n (fun i => .int .i64 (x.P i)))
    (hK : Kept Nowhere w wr ∧ wr.heap.size = w.heap.size + 1 ∧ NodesAt w.heap.size c.n c.n A L C wr)
    (hst : c.start < c.n) (hs1 : -9223372036854775808 ≤ stamp) (hs2 : stamp < 9223372036854775807) (hf : c.fwd = true) :
    Calls Try.prog 29 #[.pointer (some ⟨wr.heap.size, 0, none⟩), .int .i64 (c.start : Nat), .int .i64 c.e, .int .i64 c.bound, .bool true]
      (wr.alloc (.cells #[.slice (some ⟨w.heap.size, 0, none⟩) c.n c.n, .slice (some ⟨bq, 0, none⟩) c.n c.n, .slice (some ⟨bo, 0, none⟩) c.n c.n, .slice none 0 0, .map none, .int .i64 stamp, .slice (some ⟨x.bm, 0, none⟩) c.n c.n, .slice (some ⟨x.bp, 0, none⟩) c.n c.n, .slice none 0 0, .slice fa fl fc, .slice ba bl bc, .slice none 0 0] 71))
      fun e w' => e = .returned (.bool (fin c).ok) ∧ ∃ a k sv, Done c S x (fin c) (.slice a (fin c).F.length k) w w' ∧ DAt w' wr.heap.size (.slice (some ⟨w.heap.size, 0, none⟩) c.n c.n) (.slice (some ⟨bq, 0, none⟩) c.n c.n) (.slice (some ⟨bo, 0, none⟩) c.n c.n) (stamp + 1) (.slice (some ⟨x.bm, 0, none⟩) c.n c.n) (.slice (some ⟨x.bp, 0, none⟩) c.n c.n) sv (.slice a (fin c).F.length k) (.slice ba bl bc) := by
  have hml := hR.1.lt
  have hpl := hR.2.lt
  have hsz := hK.2.1
  have k2 := fun o => hK.1.alloc o
  refine (reach_fwd c (fun k => (S k ∧ k < w.heap.size) ∨ k = wr.heap.size) ⟨wr.heap.size, x.bm, x.bp, .slice (some ⟨w.heap.size, 0, none⟩) c.n c.n, .slice (some ⟨bq, 0, none⟩) c.n c.n, .slice (some ⟨bo, 0, none⟩) c.n c.n, .slice fa fl fc, .slice ba bl bc, x.now, x.M, x.P⟩ w.heap.size bq bo A L C A' L' C' stamp fa fl fc ba bl bc fx _
    (hrz.ro hK.1 hsz hK.2.2 (by omega)) rfl rfl rfl rfl rfl hnow (Deep.blk_alloc_new _ _) (((k2 _).row hR.1 (fun h => h))) (((k2 _).row hR.2 (fun h => h))) ((k2 _).owns hF.1 (fun _ _ h => h)) (fun k hk => .inl ⟨hF.2.1 k hk, (hF.1.lt k hk).2⟩)
    ⟨fun e => by have h2 : wr.heap.size < w.heap.size := (hF.1.lt wr.heap.size e).2; omega, hF.2.2.1.1, hF.2.2.1.2⟩ ⟨.inr rfl, .inl ⟨hF.2.2.2.1, hml⟩, .inl ⟨hF.2.2.2.2.1, hpl⟩⟩ ⟨by show wr.heap.size ≠ x.bm; omega, by show wr.heap.size ≠ x.bp; omega, hF.2.2.2.2.2.1⟩ hF.2.2.2.2.2.2 hst hs1 hs2 hf).mono ?_
  rintro e w' ⟨he, a, k, sv, hd, hD⟩
  refine ⟨he, a, k, sv, Done.of (x := x) hd rfl hK.1 (fun k hk hs => by rcases hs with ⟨hs, _⟩ | hs; exact hs; omega) (fun k hs => by rcases hs with ⟨hs, _⟩ | hs; exact .inl hs; exact .inr (by omega)) ⟨rfl, rfl, rfl, rfl, rfl⟩, ?_⟩
  rw [← hnow]; exact hD

set_option maxRecDepth 100000 in
set_option maxHeartbeats 2000000 in
theorem zzreach_fwd (c : Ctx) (S : Nat → Prop) (x : Fix) (bs bq bo : Nat) (A : Nat → Option Addr) (L C : Nat → Nat) (A' : Nat → Option Addr) (L' C' : Nat → Nat) (stamp : Int) (fa : Option Addr) (fl fc : Nat) (ba : Option Addr) (bl bc : Nat) (fx : List Value) (w : World)
    (hrz : RZ c S bs bq bo A L C A' L' C' w) (e5 : x.now = stamp + 1)
    (hmk : w.rowIs x.bm 3 c.n (fun i => .int .i64 (x.M i))) (hpr : w.rowIs x.bp 3 c.n (fun i => .int .i64 (x.P i)))
    (hfo : w.ownsRow 0 3 1 (.slice fa fl fc) fl fx) (hfS : ∀ k, (Value.slice fa fl fc).ownBlock = some k → S k)
    (hfd : (Value.slice fa fl fc).ownBlock ≠ some x.bm ∧ (Value.slice fa fl fc).ownBlock ≠ some x.bp)
    (own : S x.bm ∧ S x.bp) (ne : x.bm ≠ x.bp)
    (hMn : ∀ i, i < c.n → x.M i < x.now) (hst : c.start < c.n) (hs1 : -9223372036854775808 ≤ stamp) (hs2 : stamp < 9223372036854775807) (hf : c.fwd = true) :
    Calls Try.prog 23 #[.slice (some ⟨bs, 0, none⟩) c.n c.n, .slice (some ⟨bq, 0, none⟩) c.n c.n, .slice (some ⟨bo, 0, none⟩) c.n c.n, .int .i64 stamp, .slice (some ⟨x.bm, 0, none⟩) c.n c.n, .slice (some ⟨x.bp, 0, none⟩) c.n c.n, .slice fa fl fc, .slice ba bl bc, .int .i64 (c.start : Nat), .int .i64 c.e, .int .i64 c.bound, .bool true] w fun e w' => ∃ a k, e = .returned (.tuple #[.bool (fin c).ok, .int .i64 (stamp + 1), .slice (some ⟨x.bm, 0, none⟩) c.n c.n, .slice (some ⟨x.bp, 0, none⟩) c.n c.n, .slice a (fin c).F.length k, .slice ba bl bc]) ∧ Done c S x (fin c) (.slice a (fin c).F.length k) w w' := by
  have hnb := hrz.nbig
  have mk := make60 c.n hnb
  have HZ : Hid (RZ c S bs bq bo A L C A' L' C' w) := hrz
  have HN : Hid (x.now = stamp + 1) := e5
  have HF : Hid (w.ownsRow 0 3 1 (.slice fa fl fc) fl fx ∧ (∀ k, (Value.slice fa fl fc).ownBlock = some k → S k) ∧ ((Value.slice fa fl fc).ownBlock ≠ some x.bm ∧ (Value.slice fa fl fc).ownBlock ≠ some x.bp) ∧ S x.bm ∧ S x.bp ∧ x.bm ≠ x.bp ∧ ∀ i, i < c.n → x.M i < x.now) := ⟨hfo, hfS, hfd, own.1, own.2, ne, hMn⟩
  have HR : Hid (w.rowIs x.bm 3 c.n (fun i => .int .i64 (x.M i)) ∧ w.rowIs x.bp 3 c.n (fun i => .int .i64 (x.P i))) := ⟨hmk, hpr⟩
  clear hrz e5 hmk hpr hfo hfS hfd own ne hMn
  go_enter Try.func23, Try.ntmps23
  go_wp2
  go_loopg [39] c.n (fun gk i wr => ∃ j : Nat, j + gk = c.n ∧ i = .int .i64 j ∧ Hid (Kept Nowhere w wr ∧ wr.heap.size = w.heap.size + 1 ∧ NodesAt w.heap.size c.n j A L C wr))
  case atStart => exact ⟨0, by omega, rfl, (Kept.refl _ _).alloc _, by simp, ⟨_, (by have h := rowIs_of_size (w := w) (c := madeCells #[.int .u64 0, .bool false, .slice none 0 0] (c.n * 3)) (t := 60); rw [size_madeCells] at h; exact h), fun i hi => by omega⟩⟩
  case round =>
    obtain ⟨j, hjk, rfl, HK⟩ := hrel
    by_cases hj : j < c.n
    · have hcs : wr.cell? ⟨bs, j, none⟩ = some (.slice (A j) (L j) (C j)) := HK.out.1.nothing_cell (fun _ h => h) (HZ.out.succ j hj)
      obtain ⟨f, hf1, hf2⟩ := HK.out.2.2
      have cn := hf1.cell (i := j * 3 + 2) (by omega)
      have zn := hf1.frozen (j * 3 + 2)
      have hjI : (j : Int) < (c.n : Int) := by omega
      have H1 : Hid (wr.rowIs w.heap.size 60 (c.n * 3) f ∧ ∀ i, i < j → f (i * 3 + 2) = .slice (A i) (L i) (C i)) := ⟨hf1, hf2⟩
      obtain ⟨q, rfl⟩ : ∃ q, gk = q + 1 := ⟨gk - 1, by omega⟩
      clear hf1 hf2 mk
      go_wp2
      go_roundg q
      case measure => omega
      case rel =>
        refine ⟨j + 1, by omega, by go_num, HK.out.1.setCell (.inr (Nat.le_refl _)) _, by rw [Deep.nblk_setCell]; exact HK.out.2.1, _, H1.out.1.set (j * 3 + 2) _, fun i hi => ?_⟩
        by_cases e : i = j
        · subst e; simp
        · rw [if_neg (by omega)]; exact H1.out.2 i (by omega)
    · obtain rfl : j = c.n := by omega
      have HC : Hid (∀ (_ : Unit), _) := fun _ => reach_call_fwd c S x bs bq bo A L C A' L' C' stamp fa fl fc ba bl bc fx w wr HZ.out HN.out HF.out HR.out HK.out hst hs1 hs2 hf
      go_wp2_with (go_at_call 29; refine (HC.out ()).mono ?_; rintro e w1 ⟨rfl, a, k, sv, HD, hD⟩; have d5 := hD.c5; have d6 := hD.c6; have d7 := hD.c7; have d9 := hD.c9; have d10 := hD.c10)
      go_quiet (fail)
      go_wp2
      refine bodyPost_ret (v := .tuple #[.bool (fin c).ok, .int .i64 (stamp + 1), .slice (some ⟨x.bm, 0, none⟩) c.n c.n, .slice (some ⟨x.bp, 0, none⟩) c.n c.n, .slice a (fin c).F.length k, .slice ba bl bc]) (by simp [results, Try.results23, go_sem]) rfl ⟨a, k, rfl, ?_⟩
      exact HD.drawn ((Drawn.refl _).drewN _)

theorem reach_call_bwd (c : Ctx) (S : Nat → Prop) (x : Fix) (bs bq bo : Nat) (A : Nat → Option Addr) (L C : Nat → Nat) (A' : Nat → Option Addr) (L' C' : Nat → Nat) (stamp : Int) (fa : Option Addr) (fl fc : Nat) (ba : Option Addr) (bl bc : Nat) (fx : List Value) (w wr : World)
    (hrz : RZ c S bs bq bo A L C A' L' C' w) (hnow : x.now = stamp + 1)
    (hF : w.ownsRow 0 3 1 (.slice ba bl bc) bl fx ∧ (∀ k, (Value.slice ba bl bc).ownBlock = some k → S k) ∧ ((Value.slice ba bl bc).ownBlock ≠ some x.bm ∧ (Value.slice ba bl bc).ownBlock ≠ some x.bp) ∧ S x.bm ∧ S x.bp ∧ x.bm ≠ x.bp ∧ ∀ i, i < c.n → x.M i < x.now)
    (hR : w.rowIs x.bm 3 c.n (fun i => .int .i64 (x.M i)) ∧ w.rowIs x.bp 3 c.n (fun i => .int .i64 (x.P i)))
    (hK : Kept Nowhere w wr ∧ wr.heap.size = w.heap.size + 1 ∧ NodesAt w.heap.size c.n c.n A L C wr)
    (hst : c.start < c.n) (hs1 : -9223372036854775808 ≤ stamp) (hs2 : stamp < 9223372036854775807) (hf : c.fwd = false) :
    Calls Try.prog 29 #[.pointer (some ⟨wr.heap.size, 0, none⟩), .int .i64 (c.start : Nat), .int .i64 c.e, .int .i64 c.bound, .bool false]
      (wr.alloc (.cells #[.slice (some ⟨w.heap.size, 0, none⟩) c.n c.n, .slice (some ⟨bq, 0, none⟩) c.n c.n, .slice (some ⟨bo, 0, none⟩) c.n c.n, .slice none 0 0, .map none, .int .i64 stamp, .slice (some ⟨x.bm, 0, none⟩) c.n c.n, .slice (some ⟨x.bp, 0, none⟩) c.n c.n, .slice none 0 0, .slice fa fl fc, .slice ba bl bc, .slice none 0 0] 71))
      fun e w' => e = .returned (.bool (fin c).ok) ∧ ∃ a k sv, Done c S x (fin c) (.slice a (fin c).F.length k) w w' ∧ DAt w' wr.heap.size (.slice (some ⟨w.heap.size, 0, none⟩) c.n c.n) (.slice (some ⟨bq, 0, none⟩) c.n c.n) (.slice (some ⟨bo, 0, none⟩) c.n c.n) (stamp + 1) (.slice (some ⟨x.bm, 0, none⟩) c.n c.n) (.slice (some ⟨x.bp, 0, none⟩) c.n c.n) sv (.slice fa fl fc) (.slice a (fin c).F.length k) := by
  have hml := hR.1.lt
  have hpl := hR.2.lt
  have hsz := hK.2.1
  have k2 := fun o => hK.1.alloc o
  refine (reach_bwd c (fun k => (S k ∧ k < w.heap.size) ∨ k = wr.heap.size) ⟨wr.heap.size, x.bm, x.bp, .slice (some ⟨w.heap.size, 0, none⟩) c.n c.n, .slice (some ⟨bq, 0, none⟩) c.n c.n, .slice (some ⟨bo, 0, none⟩) c.n c.n, .slice fa fl fc, .slice ba bl bc, x.now, x.M, x.P⟩ w.heap.size bq bo A L C A' L' C' stamp ba bl bc fx _
    (hrz.ro hK.1 hsz hK.2.2 (by omega)) rfl rfl rfl rfl hnow (Deep.blk_alloc_new _ _) (((k2 _).row hR.1 (fun h => h))) (((k2 _).row hR.2 (fun h => h))) ((k2 _).owns hF.1 (fun _ _ h => h)) (fun k hk => .inl ⟨hF.2.1 k hk, (hF.1.lt k hk).2⟩)
    ⟨fun e => by have h2 : wr.heap.size < w.heap.size := (hF.1.lt wr.heap.size e).2; omega, hF.2.2.1.1, hF.2.2.1.2⟩ ⟨.inr rfl, .inl ⟨hF.2.2.2.1, hml⟩, .inl ⟨hF.2.2.2.2.1, hpl⟩⟩ ⟨by show wr.heap.size ≠ x.bm; omega, by show wr.heap.size ≠ x.bp; omega, hF.2.2.2.2.2.1⟩ hF.2.2.2.2.2.2 hst hs1 hs2 hf).mono ?_
  rintro e w' ⟨he, a, k, sv, hd, hD⟩
  refine ⟨he, a, k, sv, Done.of (x := x) hd rfl hK.1 (fun k hk hs => by rcases hs with ⟨hs, _⟩ | hs; exact hs; omega) (fun k hs => by rcases hs with ⟨hs, _⟩ | hs; exact .inl hs; exact .inr (by omega)) ⟨rfl, rfl, rfl, rfl, rfl⟩, ?_⟩
  rw [← hnow]; exact hD

set_option maxRecDepth 100000 in
set_option maxHeartbeats 2000000 in
theorem zzreach_bwd (c : Ctx) (S : Nat → Prop) (x : Fix) (bs bq bo : Nat) (A : Nat → Option Addr) (L C : Nat → Nat) (A' : Nat → Option Addr) (L' C' : Nat → Nat) (stamp : Int) (fa : Option Addr) (fl fc : Nat) (ba : Option Addr) (bl bc : Nat) (fx : List Value) (w : World)
    (hrz : RZ c S bs bq bo A L C A' L' C' w) (e5 : x.now = stamp + 1)
    (hmk : w.rowIs x.bm 3 c.n (fun i => .int .i64 (x.M i))) (hpr : w.rowIs x.bp 3 c.n (fun i => .int .i64 (x.P i)))
    (hfo : w.ownsRow 0 3 1 (.slice ba bl bc) bl fx) (hfS : ∀ k, (Value.slice ba bl bc).ownBlock = some k → S k)
    (hfd : (Value.slice ba bl bc).ownBlock ≠ some x.bm ∧ (Value.slice ba bl bc).ownBlock ≠ some x.bp)
    (own : S x.bm ∧ S x.bp) (ne : x.bm ≠ x.bp)
    (hMn : ∀ i, i < c.n → x.M i < x.now) (hst : c.start < c.n) (hs1 : -9223372036854775808 ≤ stamp) (hs2 : stamp < 9223372036854775807) (hf : c.fwd = false) :
    Calls Try.prog 23 #[.slice (some ⟨bs, 0, none⟩) c.n c.n, .slice (some ⟨bq, 0, none⟩) c.n c.n, .slice (some ⟨bo, 0, none⟩) c.n c.n, .int .i64 stamp, .slice (some ⟨x.bm, 0, none⟩) c.n c.n, .slice (some ⟨x.bp, 0, none⟩) c.n c.n, .slice fa fl fc, .slice ba bl bc, .int .i64 (c.start : Nat), .int .i64 c.e, .int .i64 c.bound, .bool false] w fun e w' => ∃ a k, e = .returned (.tuple #[.bool (fin c).ok, .int .i64 (stamp + 1), .slice (some ⟨x.bm, 0, none⟩) c.n c.n, .slice (some ⟨x.bp, 0, none⟩) c.n c.n, .slice fa fl fc, .slice a (fin c).F.length k]) ∧ Done c S x (fin c) (.slice a (fin c).F.length k) w w' := by
  have hnb := hrz.nbig
  have mk := make60 c.n hnb
  have HZ : Hid (RZ c S bs bq bo A L C A' L' C' w) := hrz
  have HN : Hid (x.now = stamp + 1) := e5
  have HF : Hid (w.ownsRow 0 3 1 (.slice ba bl bc) bl fx ∧ (∀ k, (Value.slice ba bl bc).ownBlock = some k → S k) ∧ ((Value.slice ba bl bc).ownBlock ≠ some x.bm ∧ (Value.slice ba bl bc).ownBlock ≠ some x.bp) ∧ S x.bm ∧ S x.bp ∧ x.bm ≠ x.bp ∧ ∀ i, i < c.n → x.M i < x.now) := ⟨hfo, hfS, hfd, own.1, own.2, ne, hMn⟩
  have HR : Hid (w.rowIs x.bm 3 c.n (fun i => .int .i64 (x.M i)) ∧ w.rowIs x.bp 3 c.n (fun i => .int .i64 (x.P i))) := ⟨hmk, hpr⟩
  clear hrz e5 hmk hpr hfo hfS hfd own ne hMn
  go_enter Try.func23, Try.ntmps23
  go_wp2
  go_loopg [39] c.n (fun gk i wr => ∃ j : Nat, j + gk = c.n ∧ i = .int .i64 j ∧ Hid (Kept Nowhere w wr ∧ wr.heap.size = w.heap.size + 1 ∧ NodesAt w.heap.size c.n j A L C wr))
  case atStart => exact ⟨0, by omega, rfl, (Kept.refl _ _).alloc _, by simp, ⟨_, (by have h := rowIs_of_size (w := w) (c := madeCells #[.int .u64 0, .bool false, .slice none 0 0] (c.n * 3)) (t := 60); rw [size_madeCells] at h; exact h), fun i hi => by omega⟩⟩
  case round =>
    obtain ⟨j, hjk, rfl, HK⟩ := hrel
    by_cases hj : j < c.n
    · have hcs : wr.cell? ⟨bs, j, none⟩ = some (.slice (A j) (L j) (C j)) := HK.out.1.nothing_cell (fun _ h => h) (HZ.out.succ j hj)
      obtain ⟨f, hf1, hf2⟩ := HK.out.2.2
      have cn := hf1.cell (i := j * 3 + 2) (by omega)
      have zn := hf1.frozen (j * 3 + 2)
      have hjI : (j : Int) < (c.n : Int) := by omega
      have H1 : Hid (wr.rowIs w.heap.size 60 (c.n * 3) f ∧ ∀ i, i < j → f (i * 3 + 2) = .slice (A i) (L i) (C i)) := ⟨hf1, hf2⟩
      obtain ⟨q, rfl⟩ : ∃ q, gk = q + 1 := ⟨gk - 1, by omega⟩
      clear hf1 hf2 mk
      go_wp2
      go_roundg q
      case measure => omega
      case rel =>
        refine ⟨j + 1, by omega, by go_num, HK.out.1.setCell (.inr (Nat.le_refl _)) _, by rw [Deep.nblk_setCell]; exact HK.out.2.1, _, H1.out.1.set (j * 3 + 2) _, fun i hi => ?_⟩
        by_cases e : i = j
        · subst e; simp
        · rw [if_neg (by omega)]; exact H1.out.2 i (by omega)
    · obtain rfl : j = c.n := by omega
      have HC : Hid (∀ (_ : Unit), _) := fun _ => reach_call_bwd c S x bs bq bo A L C A' L' C' stamp fa fl fc ba bl bc fx w wr HZ.out HN.out HF.out HR.out HK.out hst hs1 hs2 hf
      go_wp2_with (go_at_call 29; refine (HC.out ()).mono ?_; rintro e w1 ⟨rfl, a, k, sv, HD, hD⟩; have d5 := hD.c5; have d6 := hD.c6; have d7 := hD.c7; have d9 := hD.c9; have d10 := hD.c10)
      go_quiet (fail)
      go_wp2
      refine bodyPost_ret (v := .tuple #[.bool (fin c).ok, .int .i64 (stamp + 1), .slice (some ⟨x.bm, 0, none⟩) c.n c.n, .slice (some ⟨x.bp, 0, none⟩) c.n c.n, .slice fa fl fc, .slice a (fin c).F.length k]) (by simp [results, Try.results23, go_sem]) rfl ⟨a, k, rfl, ?_⟩
      exact HD.drawn ((Drawn.refl _).drewN _)

end Go.Proofs.Qxb6604039a
