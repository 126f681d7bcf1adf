/-
  zzWitnessOf: six matrices and three rows are laid, then ZZWitness.
-/
import Derived.Test.Qxb6604039aWitZ
namespace Go.Proofs.Qxb6604039a
open Go.RowKit

def rt : Nat → TypeId
  | 0 => 3
  | 1 => 3
  | 2 => 2
  | 3 => 4
  | 4 => 5
  | _ => 4
def ot : Nat → TypeId
  | 0 => 24
  | 1 => 24
  | 2 => 64
  | 3 => 30
  | 4 => 65
  | _ => 30

/-- where the rows of round k begin -/
def nb (B : Nat) (L : Nat → Nat) : Nat → Nat
  | 0 => B + 8
  | k + 1 => nb B L k + 6 + L k
theorem nb_le (B : Nat) (L : Nat → Nat) : ∀ k, B + 8 ≤ nb B L k
  | 0 => Nat.le_refl _
  | k + 1 => by have := nb_le B L k; simp only [nb]; omega
theorem nb_lt (B : Nat) (L : Nat → Nat) {i : Nat} : ∀ {j : Nat}, i < j → nb B L i + 6 ≤ nb B L j
  | 0, h => by omega
  | j + 1, h => by
    simp only [nb]
    by_cases e : i = j
    · subst e; omega
    · have := nb_lt B L (show i < j by omega); omega

/-- j rounds are done -/
structure OI (w wr : World) (X : Nat → Nat → Stp) (n j : Nat) (L : Nat → Nat) : Prop where
  kept : Kept Nowhere w wr
  size : wr.heap.size = nb w.heap.size L j
  r0 : wr.rowIs w.heap.size 45 6 Stp.zero.cell
  r1 : wr.rowIs (w.heap.size + 1) 45 6 Stp.zero.cell
  outer : ∀ f, f < 6 → wr.rowIs (w.heap.size + (2 + f)) (ot f) n (fun i => if i < j then .slice (some ⟨nb w.heap.size L i + f, 0, none⟩) (L i) (L i) else .slice none 0 0)
  rows : ∀ i, i < j → ∀ f, f < 6 → wr.rowIs (nb w.heap.size L i + f) (rt f) (L i) (fun t => (X i t).cell f)

def Outer (w : World) (z : Nat) : Prop := w.heap.size + 2 ≤ z ∧ z < w.heap.size + 8

/-- in a round: g of the six rows are made -/
structure OM (w wr wm : World) (n j g : Nat) (L : Nat → Nat) : Prop where
  kw : Kept Nowhere w wm
  kr : Kept (Outer w) wr wm
  size : wm.heap.size = wr.heap.size + g
  outer : ∀ f, f < 6 → wm.rowIs (w.heap.size + (2 + f)) (ot f) n (fun i => if i < j ∨ (i = j ∧ f < g) then .slice (some ⟨nb w.heap.size L i + f, 0, none⟩) (L i) (L i) else .slice none 0 0)
  rows : ∀ f, f < g → wm.rowIs (wr.heap.size + f) (rt f) (L j) (fun _ => Stp.zero.cell f)

/-- .. t steps are laid -/
structure OT (w wr wi : World) (X : Nat → Nat → Stp) (n j t : Nat) (L : Nat → Nat) : Prop where
  kw : Kept Nowhere w wi
  kr : Kept (Outer w) wr wi
  size : wi.heap.size = wr.heap.size + 6 + t
  outer : ∀ f, f < 6 → wi.rowIs (w.heap.size + (2 + f)) (ot f) n (fun i => if i < j + 1 then .slice (some ⟨nb w.heap.size L i + f, 0, none⟩) (L i) (L i) else .slice none 0 0)
  rows : ∀ f, f < 6 → wi.rowIs (wr.heap.size + f) (rt f) (L j) (fun i => if i < t then (X j i).cell f else Stp.zero.cell f)

/-- .. of the next one g fields -/
structure OS (w wr ws : World) (X : Nat → Nat → Stp) (n j t g bx : Nat) (L : Nat → Nat) : Prop where
  kw : Kept Nowhere w ws
  kr : Kept (Outer w) wr ws
  size : ws.heap.size = wr.heap.size + 6 + (t + 1)
  bxe : bx = wr.heap.size + 6 + t
  box : ∀ f, f < 6 → ws.cell? ⟨bx, f, none⟩ = some ((X j t).cell f)
  outer : ∀ f, f < 6 → ws.rowIs (w.heap.size + (2 + f)) (ot f) n (fun i => if i < j + 1 then .slice (some ⟨nb w.heap.size L i + f, 0, none⟩) (L i) (L i) else .slice none 0 0)
  rows : ∀ f, f < 6 → ws.rowIs (wr.heap.size + f) (rt f) (L j) (fun i => if i < t ∨ (i = t ∧ f < g) then (X j i).cell f else Stp.zero.cell f)

theorem OI.start (w : World) (X : Nat → Nat → Stp) (n : Nat) (L : Nat → Nat) :
    OI w ((((((((w.alloc (.cells #[.int .i64 0, .int .i64 0, .int .i64 0, .bool false, .int .u8 0, .bool false] 45)).alloc (.cells #[.int .i64 0, .int .i64 0, .int .i64 0, .bool false, .int .u8 0, .bool false] 45)).alloc (.cells (madeCells #[.slice none 0 0] n) 24)).alloc (.cells (madeCells #[.slice none 0 0] n) 24)).alloc (.cells (madeCells #[.slice none 0 0] n) 64)).alloc (.cells (madeCells #[.slice none 0 0] n) 30)).alloc (.cells (madeCells #[.slice none 0 0] n) 65)).alloc (.cells (madeCells #[.slice none 0 0] n) 30)) X n 0 L := by
  refine ⟨((((((((Kept.refl Nowhere w).alloc _).alloc _).alloc _).alloc _).alloc _).alloc _).alloc _).alloc _, by simp [nb], ?_, ?_, fun f hf => ?_, fun i hi => by omega⟩
  · exact (((((((row_new rfl rfl (fun i hi => zero_cells6 i hi)).alloc _).alloc _).alloc _).alloc _).alloc _).alloc _).alloc _
  · exact ((((((row_new (Deep.nblk_alloc _ _) rfl (fun i hi => zero_cells6 i hi)).alloc _).alloc _).alloc _).alloc _).alloc _).alloc _
  · have h : f = 0 ∨ f = 1 ∨ f = 2 ∨ f = 3 ∨ f = 4 ∨ f = 5 := by omega
    rcases h with rfl | rfl | rfl | rfl | rfl | rfl
    · exact ((((((row_made (by simp)).alloc _).alloc _).alloc _).alloc _).alloc _).congr (fun i _ => by simp)
    · exact (((((row_made (by simp)).alloc _).alloc _).alloc _).alloc _).congr (fun i _ => by simp)
    · exact ((((row_made (by simp)).alloc _).alloc _).alloc _).congr (fun i _ => by simp)
    · exact (((row_made (by simp)).alloc _).alloc _).congr (fun i _ => by simp)
    · exact ((row_made (by simp)).alloc _).congr (fun i _ => by simp)
    · exact (row_made (by simp)).congr (fun i _ => by simp)

theorem OM.start {w wr : World} {X : Nat → Nat → Stp} {n j : Nat} {L : Nat → Nat} (h : OI w wr X n j L) : OM w wr wr n j 0 L :=
  ⟨h.kept, Kept.refl _ _, rfl, fun f hf => (h.outer f hf).congr (fun i _ => by simp), fun f hf => by omega⟩

theorem OM.step {w wr wm : World} {X : Nat → Nat → Stp} {n j g l : Nat} {L : Nat → Nat} (hz : OI w wr X n j L) (h : OM w wr wm n j g L) (hg : g < 6) (hl : L j = l) {z : Value} {t : TypeId} (hzz : z = Stp.zero.cell g) (ht : t = rt g) {b c : Nat} (hb : b = w.heap.size + (2 + g)) (hc : c = wr.heap.size + g) :
    OM w wr ((wm.alloc (.cells (madeCells #[z] l) t)).setCell ⟨b, j, none⟩ (.slice (some ⟨c, 0, none⟩) l l)) n j (g + 1) L := by
  subst hzz; subst ht; subst hb; subst hc; subst hl
  have hs := hz.size
  have hs2 := h.size
  have hn := nb_le w.heap.size L j
  have kO : Kept (Outer w) wm ((wm.alloc (.cells (madeCells #[Stp.zero.cell g] (L j)) (rt g))).setCell ⟨w.heap.size + (2 + g), j, none⟩ (.slice (some ⟨wr.heap.size + g, 0, none⟩) (L j) (L j))) := ((Kept.refl (Outer w) wm).alloc _).setCell (a := ⟨w.heap.size + (2 + g), j, none⟩) (.inl (by unfold Outer; show _ ≤ _ ∧ _ < _; dsimp only; omega)) _
  refine ⟨(h.kw.alloc _).setCell (.inr (by show _ ≤ w.heap.size + _; omega)) _, h.kr.trans kO, by simp; omega, fun f hf => ?_, fun f hf => ?_⟩
  · by_cases e : f = g
    · subst e
      refine (((h.outer f hf).alloc _).set j _).congr (fun i hi => ?_)
      by_cases e : i = j
      · subst e
        rw [if_pos rfl, if_pos (by omega), hs]
      · rw [if_neg e]
        by_cases h1 : i < j
        · rw [if_pos (by omega), if_pos (by omega)]
        · rw [if_neg (by omega), if_neg (by omega)]
    · refine (((h.outer f hf).alloc _).setOther (by show _ ≠ w.heap.size + _; omega) _).congr (fun i hi => ?_)
      by_cases h1 : i < j ∨ (i = j ∧ f < g)
      · rw [if_pos h1, if_pos (by omega)]
      · rw [if_neg h1, if_neg (by omega)]
  · by_cases e : f = g
    · subst e
      exact (row_made (by omega)).setOther (by show _ ≠ w.heap.size + _; omega) _
    · exact kO.row (h.rows f (by omega)) (by unfold Outer; omega)

theorem OM.done {w wr wm : World} {X : Nat → Nat → Stp} {n j : Nat} {L : Nat → Nat} (h : OM w wr wm n j 6 L) : OT w wr wm X n j 0 L :=
  ⟨h.kw, h.kr, h.size, fun f hf => (h.outer f hf).congr (fun i _ => by
    by_cases h1 : i < j ∨ (i = j ∧ f < 6)
    · rw [if_pos h1, if_pos (by omega)]
    · rw [if_neg h1, if_neg (by omega)]), fun f hf => (h.rows f hf).congr (fun i _ => by simp)⟩

theorem OS.start {w wr wi : World} {X : Nat → Nat → Stp} {n j t : Nat} {L : Nat → Nat} (h : OT w wr wi X n j t L) {s : Stp} (hs : X j t = s) :
    OS w wr (wi.alloc (.cells #[.int .i64 s.pos, .int .i64 s.node, .int .i64 s.val, .bool s.hv, .int .u8 s.act, .bool s.pr] 43)) X n j t 0 wi.heap.size L := by
  subst hs
  refine ⟨h.kw.alloc _, h.kr.alloc _, by simp; have := h.size; omega, h.size, fun f hf => ?_, fun f hf => (h.outer f hf).alloc _, fun f hf => ((h.rows f hf).alloc _).congr (fun i _ => by simp)⟩
  have hc : f = 0 ∨ f = 1 ∨ f = 2 ∨ f = 3 ∨ f = 4 ∨ f = 5 := by omega
  simp only [World.cell?, Deep.blk_alloc_new]
  rcases hc with rfl | rfl | rfl | rfl | rfl | rfl <;> rfl

theorem OS.step {w wr ws : World} {X : Nat → Nat → Stp} {n j t g bx : Nat} {L : Nat → Nat} (hz : OI w wr X n j L) (h : OS w wr ws X n j t g bx L) (hg : g < 6) {v : Value} (hv : v = (X j t).cell g) {b : Nat} (hb : b = wr.heap.size + g) :
    OS w wr (ws.setCell ⟨b, t, none⟩ v).drew X n j t (g + 1) bx L := by
  subst hv; subst hb
  have hs := hz.size
  have hn := nb_le w.heap.size L j
  have hbx := h.bxe
  have hwr : w.heap.size ≤ wr.heap.size := by omega
  have kG : Kept (fun z => z = wr.heap.size + g) ws (ws.setCell ⟨wr.heap.size + g, t, none⟩ ((X j t).cell g)).drew := ((Kept.refl (fun z => z = wr.heap.size + g) ws).setCell (a := ⟨wr.heap.size + g, t, none⟩) (.inl rfl) _).drew
  refine ⟨(h.kw.setCell (.inr (by show _ ≤ wr.heap.size + g; omega)) _).drew, (h.kr.setCell (.inr (by show _ ≤ wr.heap.size + g; omega)) _).drew, (Deep.nblk_setCell _ _ _).trans h.size, h.bxe, fun f hf => cell_kept kG (h.box f hf) (by intro (hq : _ = _); omega), fun f hf => kG.row (h.outer f hf) (by intro (hq : _ = _); omega), fun f hf => ?_⟩
  by_cases e : f = g
  · subst e
    refine ((h.rows f hf).set t _).drew.congr (fun i hi => ?_)
    by_cases e : i = t
    · subst e
      rw [if_pos rfl, if_pos (by omega)]
    · rw [if_neg e]
      by_cases h1 : i < t
      · rw [if_pos (by omega), if_pos (by omega)]
      · rw [if_neg (by omega), if_neg (by omega)]
  · refine (kG.row (h.rows f hf) (by intro (hq : _ = _); omega)).congr (fun i hi => ?_)
    by_cases h1 : i < t ∨ (i = t ∧ f < g)
    · rw [if_pos h1, if_pos (by omega)]
    · rw [if_neg h1, if_neg (by omega)]

theorem OS.done {w wr ws : World} {X : Nat → Nat → Stp} {n j t bx : Nat} {L : Nat → Nat} (h : OS w wr ws X n j t 6 bx L) : OT w wr ws X n j (t + 1) L :=
  ⟨h.kw, h.kr, h.size, h.outer, fun f hf => (h.rows f hf).congr (fun i _ => by
    by_cases h1 : i < t ∨ (i = t ∧ f < 6)
    · rw [if_pos h1, if_pos (by omega)]
    · rw [if_neg h1, if_neg (by omega)])⟩

theorem OT.done {w wr wi : World} {X : Nat → Nat → Stp} {n j : Nat} {L : Nat → Nat} (h : OT w wr wi X n j (L j) L) (hz : OI w wr X n j L) : OI w wi X n (j + 1) L := by
  have hs := hz.size
  have hn := nb_le w.heap.size L j
  have r : ∀ {b : Nat} {t : TypeId} {m : Nat} {f : Nat → Value}, wr.rowIs b t m f → (b < w.heap.size + 2 ∨ w.heap.size + 8 ≤ b) → wi.rowIs b t m f := fun hr h1 => h.kr.row hr (by unfold Outer; omega)
  refine ⟨h.kw, by rw [h.size, hs]; rfl, r hz.r0 (by omega), r hz.r1 (by omega), h.outer, fun i hi f hf => ?_⟩
  by_cases e : i = j
  · subst e
    rw [← hs]
    exact (h.rows f hf).congr (fun t ht => by rw [if_pos ht])
  · have := nb_le w.heap.size L i
    exact r (hz.rows i (by omega) f hf) (by omega)

/-- the three rows of the uses -/
structure OV (w wr wi : World) (U : Nat → Us) (nU t : Nat) : Prop where
  kw : Kept Nowhere w wi
  kr : Kept Nowhere wr wi
  v : ∀ f, f < 3 → wi.rowIs (wr.heap.size + f) 3 nU (fun i => if i < t then (U i).cell f else .int .i64 0)

theorem OV.start {w wr : World} {U : Nat → Us} {nU : Nat} (k : Kept Nowhere w wr) : OV w wr (((wr.alloc (.cells (madeCells #[.int .i64 0] nU) 3)).alloc (.cells (madeCells #[.int .i64 0] nU) 3)).alloc (.cells (madeCells #[.int .i64 0] nU) 3)) U nU 0 := by
  refine ⟨((k.alloc _).alloc _).alloc _, (((Kept.refl _ _).alloc _).alloc _).alloc _, fun f hf => ?_⟩
  have h : f = 0 ∨ f = 1 ∨ f = 2 := by omega
  rcases h with rfl | rfl | rfl
  · exact (((row_made rfl).alloc _).alloc _).congr (fun i _ => by simp)
  · exact ((row_made (by simp)).alloc _).congr (fun i _ => by simp)
  · exact (row_made (by simp)).congr (fun i _ => by simp)

theorem OV.step {w wr wi : World} {U : Nat → Us} {nU t : Nat} (h : OV w wr wi U nU t) (hw : w.heap.size ≤ wr.heap.size) :
    OV w wr (((wi.setCell ⟨wr.heap.size, t, none⟩ (.int .i64 (U t).item)).setCell ⟨wr.heap.size + 1, t, none⟩ (.int .i64 (U t).first)).setCell ⟨wr.heap.size + 1 + 1, t, none⟩ (.int .i64 (U t).hi)) U nU (t + 1) := by
  have hs : ∀ (f i : Nat), (if i = t then (U t).cell f else if i < t then (U i).cell f else Value.int .i64 0) = if i < t + 1 then (U i).cell f else .int .i64 0 := fun f i => by
    by_cases e : i = t
    · subst e; simp
    · rw [if_neg e]
      by_cases h1 : i < t
      · rw [if_pos h1, if_pos (by omega)]
      · rw [if_neg h1, if_neg (by omega)]
  refine ⟨((h.kw.setCell (.inr hw) _).setCell (.inr (by show _ ≤ _ + 1; omega)) _).setCell (.inr (by show _ ≤ _ + 1 + 1; omega)) _, ((h.kr.setCell (.inr (Nat.le_refl _)) _).setCell (.inr (by show _ ≤ _ + 1; omega)) _).setCell (.inr (by show _ ≤ _ + 1 + 1; omega)) _, fun f hf => ?_⟩
  have hc : f = 0 ∨ f = 1 ∨ f = 2 := by omega
  rcases hc with rfl | rfl | rfl
  · exact ((((h.v 0 hf).set t _).setOther (by show _ + 0 ≠ _ + 1; omega) _).setOther (by show _ + 0 ≠ _ + 1 + 1; omega) _).congr (fun i _ => hs 0 i)
  · exact ((((h.v 1 hf).setOther (by show wr.heap.size + 1 ≠ wr.heap.size; omega) _).set t _).setOther (by show _ + 1 ≠ _ + 1 + 1; omega) _).congr (fun i _ => hs 1 i)
  · exact ((((h.v 2 hf).setOther (by show wr.heap.size + 2 ≠ wr.heap.size; omega) _).setOther (by show _ + 2 ≠ _ + 1; omega) _).set t _).congr (fun i _ => hs 2 i)

theorem zin_of {w wr wi : World} {H : Hist} {n nU : Nat} {L : Nat → Nat} (hz : OI w wr H.X n n L) (hv : OV w wr wi H.U nU nU) :
    ZIn wi H n nU L (w.heap.size + 1 + 1) (w.heap.size + 1 + 1 + 1) (w.heap.size + 1 + 1 + 1 + 1) (w.heap.size + 1 + 1 + 1 + 1 + 1) (w.heap.size + 1 + 1 + 1 + 1 + 1 + 1) (w.heap.size + 1 + 1 + 1 + 1 + 1 + 1 + 1) wr.heap.size (wr.heap.size + 1) (wr.heap.size + 1 + 1) (fun i => nb w.heap.size L i + 0) (fun i => nb w.heap.size L i + 1) (fun i => nb w.heap.size L i + 2) (fun i => nb w.heap.size L i + 3) (fun i => nb w.heap.size L i + 4) (fun i => nb w.heap.size L i + 5) := by
  have m : ∀ f, f < 6 → Mat wi (w.heap.size + (2 + f)) n (fun i => nb w.heap.size L i + f) L (fun k i => (H.X k i).cell f) := fun f hf =>
    ⟨fun k hk => by
      have := (hv.kr.row (hz.outer f hf) (fun h => h)).cell hk
      rwa [if_pos hk] at this, fun k hk i hi => (hv.kr.row (hz.rows k hk f hf) (fun h => h)).cell hi⟩
  have q : ∀ f, f < 3 → Vec wi (wr.heap.size + f) nU (fun u => (H.U u).cell f) := fun f hf u hu => by
    have := (hv.v f hf).cell hu
    rwa [if_pos hu] at this
  exact ⟨m 0 (by omega), m 1 (by omega), m 2 (by omega), m 3 (by omega), m 4 (by omega), m 5 (by omega), q 0 (by omega), q 1 (by omega), q 2 (by omega)⟩

theorem Try.info64 : (Try.prog.info? 64).map (fun i => (i.zero, i.size, i.bytes)) = some (some (.slice none 0 0), 1, 24) := by kernel_rfl
theorem Try.info30 : (Try.prog.info? 30).map (fun i => (i.zero, i.size, i.bytes)) = some (some (.slice none 0 0), 1, 24) := by kernel_rfl
theorem Try.info65 : (Try.prog.info? 65).map (fun i => (i.zero, i.size, i.bytes)) = some (some (.slice none 0 0), 1, 24) := by kernel_rfl
theorem Try.info3' : (Try.prog.info? 3).map (fun i => (i.zero, i.size, i.bytes)) = some (some (.int .i64 0), 1, 8) := by kernel_rfl
theorem Try.info2' : (Try.prog.info? 2).map (fun i => (i.zero, i.size, i.bytes)) = some (some (.int .i64 0), 1, 8) := by kernel_rfl
theorem Try.info4' : (Try.prog.info? 4).map (fun i => (i.zero, i.size, i.bytes)) = some (some (.bool false), 1, 1) := by kernel_rfl
theorem Try.info5' : (Try.prog.info? 5).map (fun i => (i.zero, i.size, i.bytes)) = some (some (.int .u8 0), 1, 1) := by kernel_rfl

def Args18 (H : Hist) (n nU nu x bu ou : Nat) (L : Nat → Nat) (w : World) : Prop :=
  H.x = x ∧ w.cell? ⟨bu, ou + x, none⟩ = some (.int .i64 H.lo) ∧ w.cell? ⟨bu, ou + (x + 1), none⟩ = some (.int .i64 H.hi) ∧ x + 1 < nu ∧ nu ≤ 1048576 ∧ H.lo ≤ H.hi ∧ H.hi ≤ nU ∧ nU ≤ 1048576 ∧ n ≤ 1048576 ∧ (∀ k, k < n → L k ≤ 1048576) ∧ UOK n L H.U H.lo H.hi ∧ PosOK L H.X n ∧ ∀ k, k < n → OrdRow (H.X k) H.x (L k)

theorem Args18.kept {H : Hist} {n nU nu x bu ou : Nat} {L : Nat → Nat} {w w' : World} (h : Args18 H n nU nu x bu ou L w) (k : Kept Nowhere w w') : Args18 H n nU nu x bu ou L w' :=
  ⟨h.1, k.nothing_cell (fun _ h => h) h.2.1, k.nothing_cell (fun _ h => h) h.2.2.1, h.2.2.2⟩

theorem call28 (H : Hist) (n nU nu ku x bu ou : Nat) (L : Nat → Nat) (bp bn bv bh ba bq bi bf bl : Nat) (Rp Rn Rv Rh Ra Rq : Nat → Nat) (w : World)
    (h : ZIn w H n nU L bp bn bv bh ba bq bi bf bl Rp Rn Rv Rh Ra Rq) (hA : Args18 H n nU nu x bu ou L w) :
    Calls Try.prog 28 #[.slice (some ⟨bp, 0, none⟩) n n, .slice (some ⟨bn, 0, none⟩) n n, .slice (some ⟨bv, 0, none⟩) n n, .slice (some ⟨bh, 0, none⟩) n n, .slice (some ⟨ba, 0, none⟩) n n, .slice (some ⟨bq, 0, none⟩) n n, .slice (some ⟨bi, 0, none⟩) nU nU, .slice (some ⟨bf, 0, none⟩) nU nU, .slice (some ⟨bl, 0, none⟩) nU nU, .slice (some ⟨bu, ou, none⟩) nu ku, .int .i64 (x : Nat), .int .i64 H.y] w
      fun e w' => (∃ o, e = .returned (.tuple #[.int .i64 (itemOf H o), (bS H o).v, (bT H o).v]) ∧ BestOf H (SeenU H.lo H.hi) o) ∧ Kept Nowhere w w' := by
  obtain ⟨h1, h2, h3, h4, h5, h6, h7, h8, h9, h10, h11, h12, h13⟩ := hA
  exact zzwitness28 H n nU nu ku x bu ou L bp bn bv bh ba bq bi bf bl Rp Rn Rv Rh Ra Rq w h h1 h2 h3 h4 h5 h6 h7 h8 h9 h10 h11 h12 h13

set_option maxRecDepth 100000 in
set_option maxHeartbeats 2000000 in
theorem zzwitnessOf18 (H : Hist) (a aU : Option Addr) (n k nU kU nu ku x bu ou : Nat) (A : Nat → Option Addr) (L C : Nat → Nat) (w : World) (hl : LogsAt w a n A L C H.X) (hu : UsesAt w aU nU H.U) (hA : Args18 H n nU nu x bu ou L w) :
    Calls Try.prog 18 #[.slice a n k, .slice aU nU kU, .slice (some ⟨bu, ou, none⟩) nu ku, .int .i64 (x : Nat), .int .i64 H.y] w
      fun e w' => (∃ o, e = .returned (.tuple #[.int .i64 (itemOf H o), (bS H o).v, (bT H o).v]) ∧ BestOf H (SeenU H.lo H.hi) o) ∧ Kept Nowhere w w' := by
  have hn : n ≤ 1048576 := hA.2.2.2.2.2.2.2.2.1
  have hnU : nU ≤ 1048576 := hA.2.2.2.2.2.2.2.1
  have HX : Hid (LogsAt w a n A L C H.X) := hl
  have HU : Hid (UsesAt w aU nU H.U) := hu
  have HA : Hid (Args18 H n nU nu x bu ou L w) := hA
  clear hl hu hA
  have mk22 := run_make_row' (P := Try.prog) 22 24 (.slice none 0 0) 24 Try.underlying22 Try.info24 rfl .i64 .i64 n (by omega) (by omega)
  have mk62 := run_make_row' (P := Try.prog) 62 64 (.slice none 0 0) 24 Try.underlying62 Try.info64 rfl .i64 .i64 n (by omega) (by omega)
  have mk28 := run_make_row' (P := Try.prog) 28 30 (.slice none 0 0) 24 Try.underlying28 Try.info30 rfl .i64 .i64 n (by omega) (by omega)
  have mk63 := run_make_row' (P := Try.prog) 63 65 (.slice none 0 0) 24 Try.underlying63 Try.info65 rfl .i64 .i64 n (by omega) (by omega)
  go_enter Try.func18, Try.ntmps18
  go_wp2
  clear mk22 mk62 mk28 mk63
  go_loopg [20] n (fun gk v20 wr => ∃ j : Nat, j + gk = n ∧ v20 = .int .i64 j ∧ Hid (OI w wr H.X n j L))
  case atStart => exact ⟨0, by omega, rfl, OI.start w H.X n L⟩
  case round =>
    obtain ⟨j, hjk, rfl, HZ⟩ := hrel
    by_cases hj : j < n
    · have hjI : (j : Int) < (n : Int) := by omega
      obtain ⟨b, o, rfl, hc⟩ := HX.out.1 (by omega)
      have hcw := hc j hj
      obtain ⟨aj, haj⟩ : ∃ a, A j = a := ⟨_, rfl⟩
      obtain ⟨l, hl⟩ : ∃ l, L j = l := ⟨_, rfl⟩
      obtain ⟨kj, hkj⟩ : ∃ k, C j = k := ⟨_, rfl⟩
      have hlb : l ≤ 1048576 := by rw [← hl]; exact HA.out.2.2.2.2.2.2.2.2.2.1 j hj
      have hst := HX.out.2 j hj
      rw [haj, hl] at hst
      rw [haj, hl, hkj] at hcw
      have HST : Hid (StepsAt w aj l (H.X j)) := hst
      have HL : Hid (L j = l) := hl
      have HC : Hid (w.cell? ⟨b, o + j, none⟩ = some (.slice aj l kj)) := hcw
      have cj : wr.cell? ⟨b, o + j, none⟩ = some (.slice aj l kj) := HZ.out.kept.nothing_cell (fun _ h => h) hcw
      have mk24 := run_make_row' (P := Try.prog) 24 3 (.int .i64 0) 8 Try.underlying24 Try.info3' rfl .i64 .i64 l (by omega) (by omega)
      have mk64 := run_make_row' (P := Try.prog) 64 2 (.int .i64 0) 8 Try.underlying64 Try.info2' rfl .i64 .i64 l (by omega) (by omega)
      have mk30 := run_make_row' (P := Try.prog) 30 4 (.bool false) 1 Try.underlying30 Try.info4' rfl .i64 .i64 l (by omega) (by omega)
      have mk65 := run_make_row' (P := Try.prog) 65 5 (.int .u8 0) 1 Try.underlying65 Try.info5' rfl .i64 .i64 l (by omega) (by omega)
      have HMK24 : Hid (∀ w, _) := mk24
      have HMK64 : Hid (∀ w, _) := mk64
      have HMK30 : Hid (∀ w, _) := mk30
      have HMK65 : Hid (∀ w, _) := mk65
      obtain ⟨q, rfl⟩ : ∃ q, gk = q + 1 := ⟨gk - 1, by omega⟩
      have HM0 : Hid (OM w wr wr n j 0 L) := OM.start HZ.out
      clear haj hl hkj hst hcw hc mk24 mk64 mk30 mk65
      have mk := HMK24.out wr
      have sz : wr.heap.size = wr.heap.size := HM0.out.size
      rw [sz] at mk
      have c1 : ∀ ob, (wr.alloc ob).cell? ⟨w.heap.size + 1 + 1, j, none⟩ = some (.slice none 0 0) := fun ob => by
        have := ((HM0.out.outer 0 (by omega)).alloc ob).cell hj
        simpa using this
      have z1 : ∀ ob, (wr.alloc ob).frozen? ⟨w.heap.size + 1 + 1, j, none⟩ = false := fun ob => ((HM0.out.outer 0 (by omega)).alloc ob).frozen j
      clear sz
      go_upto_region 13 with (fail)
      have hM : OM w wr ((wr.alloc (.cells (madeCells #[.int .i64 0] l) 3)).setCell ⟨w.heap.size + 1 + 1, j, none⟩ (.slice (some ⟨wr.heap.size, 0, none⟩) l l)) n j 1 L := OM.step HZ.out HM0.out (by omega) HL.out rfl rfl rfl rfl
      revert hM
      generalize World.setCell _ _ _ = wm1
      intro hM
      have HM1 : Hid (OM w wr wm1 n j 1 L) := hM
      clear hM mk c1 z1 cj
      have mk := HMK24.out wm1
      have sz : wm1.heap.size = wr.heap.size + 1 := HM1.out.size
      rw [sz] at mk
      have c1 : ∀ ob, (wm1.alloc ob).cell? ⟨w.heap.size + 1 + 1 + 1, j, none⟩ = some (.slice none 0 0) := fun ob => by
        have := ((HM1.out.outer 1 (by omega)).alloc ob).cell hj
        simpa using this
      have z1 : ∀ ob, (wm1.alloc ob).frozen? ⟨w.heap.size + 1 + 1 + 1, j, none⟩ = false := fun ob => ((HM1.out.outer 1 (by omega)).alloc ob).frozen j
      clear sz
      go_upto_region 14 with (fail)
      have hM : OM w wr ((wm1.alloc (.cells (madeCells #[.int .i64 0] l) 3)).setCell ⟨w.heap.size + 1 + 1 + 1, j, none⟩ (.slice (some ⟨wr.heap.size + 1, 0, none⟩) l l)) n j 2 L := OM.step HZ.out HM1.out (by omega) HL.out rfl rfl rfl rfl
      revert hM
      generalize World.setCell _ _ _ = wm2
      intro hM
      have HM2 : Hid (OM w wr wm2 n j 2 L) := hM
      clear hM mk c1 z1
      have mk := HMK64.out wm2
      have sz : wm2.heap.size = wr.heap.size + 2 := HM2.out.size
      rw [sz] at mk
      have c1 : ∀ ob, (wm2.alloc ob).cell? ⟨w.heap.size + 1 + 1 + 1 + 1, j, none⟩ = some (.slice none 0 0) := fun ob => by
        have := ((HM2.out.outer 2 (by omega)).alloc ob).cell hj
        simpa using this
      have z1 : ∀ ob, (wm2.alloc ob).frozen? ⟨w.heap.size + 1 + 1 + 1 + 1, j, none⟩ = false := fun ob => ((HM2.out.outer 2 (by omega)).alloc ob).frozen j
      clear sz
      go_upto_region 15 with (fail)
      have hM : OM w wr ((wm2.alloc (.cells (madeCells #[.int .i64 0] l) 2)).setCell ⟨w.heap.size + 1 + 1 + 1 + 1, j, none⟩ (.slice (some ⟨wr.heap.size + 2, 0, none⟩) l l)) n j 3 L := OM.step HZ.out HM2.out (by omega) HL.out rfl rfl rfl rfl
      revert hM
      generalize World.setCell _ _ _ = wm3
      intro hM
      have HM3 : Hid (OM w wr wm3 n j 3 L) := hM
      clear hM mk c1 z1
      have mk := HMK30.out wm3
      have sz : wm3.heap.size = wr.heap.size + 3 := HM3.out.size
      rw [sz] at mk
      have c1 : ∀ ob, (wm3.alloc ob).cell? ⟨w.heap.size + 1 + 1 + 1 + 1 + 1, j, none⟩ = some (.slice none 0 0) := fun ob => by
        have := ((HM3.out.outer 3 (by omega)).alloc ob).cell hj
        simpa using this
      have z1 : ∀ ob, (wm3.alloc ob).frozen? ⟨w.heap.size + 1 + 1 + 1 + 1 + 1, j, none⟩ = false := fun ob => ((HM3.out.outer 3 (by omega)).alloc ob).frozen j
      clear sz
      go_upto_region 16 with (fail)
      have hM : OM w wr ((wm3.alloc (.cells (madeCells #[.bool false] l) 4)).setCell ⟨w.heap.size + 1 + 1 + 1 + 1 + 1, j, none⟩ (.slice (some ⟨wr.heap.size + 3, 0, none⟩) l l)) n j 4 L := OM.step HZ.out HM3.out (by omega) HL.out rfl rfl rfl rfl
      revert hM
      generalize World.setCell _ _ _ = wm4
      intro hM
      have HM4 : Hid (OM w wr wm4 n j 4 L) := hM
      clear hM mk c1 z1
      have mk := HMK65.out wm4
      have sz : wm4.heap.size = wr.heap.size + 4 := HM4.out.size
      rw [sz] at mk
      have c1 : ∀ ob, (wm4.alloc ob).cell? ⟨w.heap.size + 1 + 1 + 1 + 1 + 1 + 1, j, none⟩ = some (.slice none 0 0) := fun ob => by
        have := ((HM4.out.outer 4 (by omega)).alloc ob).cell hj
        simpa using this
      have z1 : ∀ ob, (wm4.alloc ob).frozen? ⟨w.heap.size + 1 + 1 + 1 + 1 + 1 + 1, j, none⟩ = false := fun ob => ((HM4.out.outer 4 (by omega)).alloc ob).frozen j
      clear sz
      go_upto_region 17 with (fail)
      have hM : OM w wr ((wm4.alloc (.cells (madeCells #[.int .u8 0] l) 5)).setCell ⟨w.heap.size + 1 + 1 + 1 + 1 + 1 + 1, j, none⟩ (.slice (some ⟨wr.heap.size + 4, 0, none⟩) l l)) n j 5 L := OM.step HZ.out HM4.out (by omega) HL.out rfl rfl rfl rfl
      revert hM
      generalize World.setCell _ _ _ = wm5
      intro hM
      have HM5 : Hid (OM w wr wm5 n j 5 L) := hM
      clear hM mk c1 z1
      have mk := HMK30.out wm5
      have sz : wm5.heap.size = wr.heap.size + 5 := HM5.out.size
      rw [sz] at mk
      have c1 : ∀ ob, (wm5.alloc ob).cell? ⟨w.heap.size + 1 + 1 + 1 + 1 + 1 + 1 + 1, j, none⟩ = some (.slice none 0 0) := fun ob => by
        have := ((HM5.out.outer 5 (by omega)).alloc ob).cell hj
        simpa using this
      have z1 : ∀ ob, (wm5.alloc ob).frozen? ⟨w.heap.size + 1 + 1 + 1 + 1 + 1 + 1 + 1, j, none⟩ = false := fun ob => ((HM5.out.outer 5 (by omega)).alloc ob).frozen j
      clear sz
      go_upto_region 18 with (fail)
      have hM : OM w wr ((wm5.alloc (.cells (madeCells #[.bool false] l) 4)).setCell ⟨w.heap.size + 1 + 1 + 1 + 1 + 1 + 1 + 1, j, none⟩ (.slice (some ⟨wr.heap.size + 5, 0, none⟩) l l)) n j 6 L := OM.step HZ.out HM5.out (by omega) HL.out rfl rfl rfl rfl
      revert hM
      generalize World.setCell _ _ _ = wm6
      intro hM
      have HM6 : Hid (OM w wr wm6 n j 6 L) := hM
      clear hM mk c1 z1
      go_wp2
      go_loopg [22] l (fun ik v22 wi => ∃ t : Nat, t + ik = l ∧ v22 = .int .i64 t ∧ Hid (OT w wr wi H.X n j t L))
      case atStart => exact ⟨0, by omega, rfl, HM6.out.done⟩
      case round =>
        obtain ⟨t, htk, rfl, HT⟩ := hrel
        rename World => wi
        by_cases ht : t < l
        · have htI : (t : Int) < (l : Int) := by omega
          have cj : wi.cell? ⟨b, o + j, none⟩ = some (.slice aj l kj) := HT.out.kw.nothing_cell (fun _ h => h) HC.out
          obtain ⟨b2, o2, rfl, hc2⟩ := HST.out.kept HT.out.kw (by omega)
          obtain ⟨c0, c1, c2, c3, c4, c5⟩ := hc2 t ht
          obtain ⟨s, hs⟩ : ∃ s, H.X j t = s := ⟨_, rfl⟩
          rw [hs] at c0 c1 c2 c3 c4 c5
          have HSt : Hid (H.X j t = s) := hs
          obtain ⟨q2, rfl⟩ : ∃ q, gk = q + 1 := ⟨gk - 1, by omega⟩
          have hS := OS.start HT.out hs
          have HSZ : Hid (wr.heap.size = nb w.heap.size L j) := HZ.out.size
          clear hs hc2
          go_wp2
          revert hS
          generalize World.alloc _ _ = ws0
          generalize wi.heap.size = bx
          intro hS
          have HS0 : Hid (OS w wr ws0 H.X n j t 0 bx L) := hS
          clear hS c0 c1 c2 c3 c4 c5 cj
          have co : ws0.cell? ⟨w.heap.size + 1 + 1, j, none⟩ = some (.slice (some ⟨wr.heap.size, 0, none⟩) l l) := by
            have := (HS0.out.outer 0 (by omega)).cell hj
            rwa [if_pos (Nat.lt_succ_self j), ← HSZ.out, HL.out] at this
          have cb : ws0.cell? ⟨bx, 0, none⟩ = some (.int .i64 s.pos) := by
            have := HS0.out.box 0 (by omega)
            rwa [HSt.out] at this
          have cr : ws0.cell? ⟨wr.heap.size, t, none⟩ = some (.int .i64 0) := by
            have := (HS0.out.rows 0 (by omega)).cell (i := t) (by have := HL.out; omega)
            rw [if_neg (by omega)] at this
            exact this
          have zr : ws0.frozen? ⟨wr.heap.size, t, none⟩ = false := (HS0.out.rows 0 (by omega)).frozen t
          go_still_tail 8, (by kernel_rfl)
          rw [show ({ heap := ws0.heap, tape := ws0.tape, drawn := ws0.drawn + 1, os := ws0.os, output := ws0.output } : World) = ws0.drew from rfl]
          go_upto_region 23 with (fail)
          have hS : OS w wr (ws0.setCell ⟨wr.heap.size, t, none⟩ (.int .i64 s.pos)).drew H.X n j t 1 bx L := OS.step HZ.out HS0.out (by omega) (by rw [HSt.out]; rfl) rfl
          revert hS
          generalize World.drew _ = ws1
          intro hS
          have HS1 : Hid (OS w wr ws1 H.X n j t 1 bx L) := hS
          clear hS co cb cr zr
          have co : ws1.cell? ⟨w.heap.size + 1 + 1 + 1, j, none⟩ = some (.slice (some ⟨wr.heap.size + 1, 0, none⟩) l l) := by
            have := (HS1.out.outer 1 (by omega)).cell hj
            rwa [if_pos (Nat.lt_succ_self j), ← HSZ.out, HL.out] at this
          have cb : ws1.cell? ⟨bx, 1, none⟩ = some (.int .i64 s.node) := by
            have := HS1.out.box 1 (by omega)
            rwa [HSt.out] at this
          have cr : ws1.cell? ⟨wr.heap.size + 1, t, none⟩ = some (.int .i64 0) := by
            have := (HS1.out.rows 1 (by omega)).cell (i := t) (by have := HL.out; omega)
            rw [if_neg (by omega)] at this
            exact this
          have zr : ws1.frozen? ⟨wr.heap.size + 1, t, none⟩ = false := (HS1.out.rows 1 (by omega)).frozen t
          go_still_tail 8, (by kernel_rfl)
          rw [show ({ heap := ws1.heap, tape := ws1.tape, drawn := ws1.drawn + 1, os := ws1.os, output := ws1.output } : World) = ws1.drew from rfl]
          go_upto_region 24 with (fail)
          have hS : OS w wr (ws1.setCell ⟨wr.heap.size + 1, t, none⟩ (.int .i64 s.node)).drew H.X n j t 2 bx L := OS.step HZ.out HS1.out (by omega) (by rw [HSt.out]; rfl) rfl
          revert hS
          generalize World.drew _ = ws2
          intro hS
          have HS2 : Hid (OS w wr ws2 H.X n j t 2 bx L) := hS
          clear hS co cb cr zr
          have co : ws2.cell? ⟨w.heap.size + 1 + 1 + 1 + 1, j, none⟩ = some (.slice (some ⟨wr.heap.size + 2, 0, none⟩) l l) := by
            have := (HS2.out.outer 2 (by omega)).cell hj
            rwa [if_pos (Nat.lt_succ_self j), ← HSZ.out, HL.out] at this
          have cb : ws2.cell? ⟨bx, 2, none⟩ = some (.int .i64 s.val) := by
            have := HS2.out.box 2 (by omega)
            rwa [HSt.out] at this
          have cr : ws2.cell? ⟨wr.heap.size + 2, t, none⟩ = some (.int .i64 0) := by
            have := (HS2.out.rows 2 (by omega)).cell (i := t) (by have := HL.out; omega)
            rw [if_neg (by omega)] at this
            exact this
          have zr : ws2.frozen? ⟨wr.heap.size + 2, t, none⟩ = false := (HS2.out.rows 2 (by omega)).frozen t
          go_still_tail 8, (by kernel_rfl)
          rw [show ({ heap := ws2.heap, tape := ws2.tape, drawn := ws2.drawn + 1, os := ws2.os, output := ws2.output } : World) = ws2.drew from rfl]
          go_upto_region 25 with (fail)
          have hS : OS w wr (ws2.setCell ⟨wr.heap.size + 2, t, none⟩ (.int .i64 s.val)).drew H.X n j t 3 bx L := OS.step HZ.out HS2.out (by omega) (by rw [HSt.out]; rfl) rfl
          revert hS
          generalize World.drew _ = ws3
          intro hS
          have HS3 : Hid (OS w wr ws3 H.X n j t 3 bx L) := hS
          clear hS co cb cr zr
          have co : ws3.cell? ⟨w.heap.size + 1 + 1 + 1 + 1 + 1, j, none⟩ = some (.slice (some ⟨wr.heap.size + 3, 0, none⟩) l l) := by
            have := (HS3.out.outer 3 (by omega)).cell hj
            rwa [if_pos (Nat.lt_succ_self j), ← HSZ.out, HL.out] at this
          have cb : ws3.cell? ⟨bx, 3, none⟩ = some (.bool s.hv) := by
            have := HS3.out.box 3 (by omega)
            rwa [HSt.out] at this
          have cr : ws3.cell? ⟨wr.heap.size + 3, t, none⟩ = some (.bool false) := by
            have := (HS3.out.rows 3 (by omega)).cell (i := t) (by have := HL.out; omega)
            rw [if_neg (by omega)] at this
            exact this
          have zr : ws3.frozen? ⟨wr.heap.size + 3, t, none⟩ = false := (HS3.out.rows 3 (by omega)).frozen t
          go_still_tail 8, (by kernel_rfl)
          rw [show ({ heap := ws3.heap, tape := ws3.tape, drawn := ws3.drawn + 1, os := ws3.os, output := ws3.output } : World) = ws3.drew from rfl]
          go_upto_region 26 with (fail)
          have hS : OS w wr (ws3.setCell ⟨wr.heap.size + 3, t, none⟩ (.bool s.hv)).drew H.X n j t 4 bx L := OS.step HZ.out HS3.out (by omega) (by rw [HSt.out]; rfl) rfl
          revert hS
          generalize World.drew _ = ws4
          intro hS
          have HS4 : Hid (OS w wr ws4 H.X n j t 4 bx L) := hS
          clear hS co cb cr zr
          have co : ws4.cell? ⟨w.heap.size + 1 + 1 + 1 + 1 + 1 + 1, j, none⟩ = some (.slice (some ⟨wr.heap.size + 4, 0, none⟩) l l) := by
            have := (HS4.out.outer 4 (by omega)).cell hj
            rwa [if_pos (Nat.lt_succ_self j), ← HSZ.out, HL.out] at this
          have cb : ws4.cell? ⟨bx, 4, none⟩ = some (.int .u8 s.act) := by
            have := HS4.out.box 4 (by omega)
            rwa [HSt.out] at this
          have cr : ws4.cell? ⟨wr.heap.size + 4, t, none⟩ = some (.int .u8 0) := by
            have := (HS4.out.rows 4 (by omega)).cell (i := t) (by have := HL.out; omega)
            rw [if_neg (by omega)] at this
            exact this
          have zr : ws4.frozen? ⟨wr.heap.size + 4, t, none⟩ = false := (HS4.out.rows 4 (by omega)).frozen t
          go_still_tail 8, (by kernel_rfl)
          rw [show ({ heap := ws4.heap, tape := ws4.tape, drawn := ws4.drawn + 1, os := ws4.os, output := ws4.output } : World) = ws4.drew from rfl]
          go_upto_region 27 with (fail)
          have hS : OS w wr (ws4.setCell ⟨wr.heap.size + 4, t, none⟩ (.int .u8 s.act)).drew H.X n j t 5 bx L := OS.step HZ.out HS4.out (by omega) (by rw [HSt.out]; rfl) rfl
          revert hS
          generalize World.drew _ = ws5
          intro hS
          have HS5 : Hid (OS w wr ws5 H.X n j t 5 bx L) := hS
          clear hS co cb cr zr
          have co : ws5.cell? ⟨w.heap.size + 1 + 1 + 1 + 1 + 1 + 1 + 1, j, none⟩ = some (.slice (some ⟨wr.heap.size + 5, 0, none⟩) l l) := by
            have := (HS5.out.outer 5 (by omega)).cell hj
            rwa [if_pos (Nat.lt_succ_self j), ← HSZ.out, HL.out] at this
          have cb : ws5.cell? ⟨bx, 5, none⟩ = some (.bool s.pr) := by
            have := HS5.out.box 5 (by omega)
            rwa [HSt.out] at this
          have cr : ws5.cell? ⟨wr.heap.size + 5, t, none⟩ = some (.bool false) := by
            have := (HS5.out.rows 5 (by omega)).cell (i := t) (by have := HL.out; omega)
            rw [if_neg (by omega)] at this
            exact this
          have zr : ws5.frozen? ⟨wr.heap.size + 5, t, none⟩ = false := (HS5.out.rows 5 (by omega)).frozen t
          go_still_tail 8, (by kernel_rfl)
          rw [show ({ heap := ws5.heap, tape := ws5.tape, drawn := ws5.drawn + 1, os := ws5.os, output := ws5.output } : World) = ws5.drew from rfl]
          go_wp2
          go_roundg q2
          case measure => omega
          case rel =>
            have hS : OS w wr (ws5.setCell ⟨wr.heap.size + 5, t, none⟩ (.bool s.pr)).drew H.X n j t 6 bx L := OS.step HZ.out HS5.out (by omega) (by rw [HSt.out]; rfl) rfl
            exact ⟨t + 1, by omega, by go_num, hS.done⟩
        · go_wp2
          go_roundg q
          case measure => omega
          case rel =>
            obtain rfl : t = l := by omega
            have hT := HT.out
            rw [← HL.out] at hT
            exact ⟨j + 1, by omega, by go_num, hT.done HZ.out⟩
    · obtain rfl : j = n := by omega
      have mk := run_make_row' (P := Try.prog) 24 3 (.int .i64 0) 8 Try.underlying24 Try.info3' rfl .i64 .i64 nU (by omega) (by omega)
      go_wp2
      clear mk
      go_loopg [27] nU (fun ik v27 wi => ∃ t : Nat, t + ik = nU ∧ v27 = .int .i64 t ∧ Hid (OV w wr wi H.U nU t))
      case atStart => exact ⟨0, by omega, rfl, OV.start HZ.out.kept⟩
      case round =>
        obtain ⟨t, htk, rfl, HT⟩ := hrel
        rename World => wi
        by_cases ht : t < nU
        · have htI : (t : Int) < (nU : Int) := by omega
          obtain ⟨b2, o2, rfl, hc2⟩ := HU.out.kept HT.out.kw (by omega)
          obtain ⟨c0, c1, c2⟩ := hc2 t ht
          have g0 : wi.cell? ⟨wr.heap.size, t, none⟩ = some (.int .i64 0) := by
            have := (HT.out.v 0 (by omega)).cell ht
            rw [if_neg (Nat.lt_irrefl _)] at this
            exact this
          have g1 : wi.cell? ⟨wr.heap.size + 1, t, none⟩ = some (.int .i64 0) := by
            have := (HT.out.v 1 (by omega)).cell ht
            rw [if_neg (Nat.lt_irrefl _)] at this
            exact this
          have g2 : wi.cell? ⟨wr.heap.size + 1 + 1, t, none⟩ = some (.int .i64 0) := by
            have := (HT.out.v 2 (by omega)).cell ht
            rw [if_neg (Nat.lt_irrefl _)] at this
            exact this
          have z0 : wi.frozen? ⟨wr.heap.size, t, none⟩ = false := (HT.out.v 0 (by omega)).frozen t
          have z1 : wi.frozen? ⟨wr.heap.size + 1, t, none⟩ = false := (HT.out.v 1 (by omega)).frozen t
          have z2 : wi.frozen? ⟨wr.heap.size + 1 + 1, t, none⟩ = false := (HT.out.v 2 (by omega)).frozen t
          have hb2 : b2 < w.heap.size := by
            obtain ⟨b3, o3, e3, hc3⟩ := HU.out (by omega)
            simp only [Option.some.injEq, Addr.mk.injEq, and_true] at e3
            have := World.block_lt_of_cell? w _ (hc3 t ht).1
            simp only at this
            omega
          have hsw : w.heap.size ≤ wr.heap.size := HZ.out.kept.size
          obtain ⟨q2, rfl⟩ : ∃ q, gk = q + 1 := ⟨gk - 1, by omega⟩
          clear hc2
          go_wp2
          go_roundg q2
          case measure => omega
          case rel => exact ⟨t + 1, by omega, by go_num, HT.out.step HZ.out.kept.size⟩
        · obtain rfl : t = nU := by omega
          have HR0 : Hid (∀ W, Kept Nowhere wi W → W.rowIs w.heap.size 45 6 Stp.zero.cell ∧ W.rowIs (w.heap.size + 1) 45 6 Stp.zero.cell) := fun W k =>
            ⟨k.row (HT.out.kr.row HZ.out.r0 (fun h => h)) (fun h => h), k.row (HT.out.kr.row HZ.out.r1 (fun h => h)) (fun h => h)⟩
          have HC : Hid (∀ (_ : Unit), _) := fun _ => call28 H j t nu ku x bu ou L _ _ _ _ _ _ _ _ _ _ _ _ _ _ _ wi (zin_of HZ.out HT.out) (HA.out.kept HT.out.kw)
          have HKW : Hid (Kept Nowhere w wi) := HT.out.kw
          go_wp2_with (go_at_call 28; refine (HC.out ()).mono ?_; rintro e w1 ⟨⟨oo, rfl, HB0⟩, hk1⟩; have HB : Hid (BestOf H (SeenU H.lo H.hi) oo) := HB0; have HK1 : Hid (Kept Nowhere wi w1) := hk1; obtain ⟨bs, hbs⟩ : ∃ s, bS H oo = s := ⟨_, rfl⟩; obtain ⟨bt, hbt⟩ : ∃ s, bT H oo = s := ⟨_, rfl⟩; obtain ⟨it, hit⟩ : ∃ s, itemOf H oo = s := ⟨_, rfl⟩; have HBS : Hid (bS H oo = bs ∧ bT H oo = bt ∧ itemOf H oo = it) := ⟨hbs, hbt, hit⟩; rw [hbs, hbt, hit]; clear hbs hbt hit HB0 hk1; obtain ⟨x0, x1⟩ := HR0.out w1 HK1.out; obtain ⟨⟨m0, m1, m2, m3, m4, m5⟩, f0, f1, f2, f3, f4, f5⟩ := rows6 x0; obtain ⟨⟨n0, n1, n2, n3, n4, n5⟩, g0, g1, g2, g3, g4, g5⟩ := rows6 x1; clear x0 x1)
          have hst := store66 (HKW.out.trans HK1.out) (Nat.le_refl _) (HR0.out w1 HK1.out).1 (HR0.out w1 HK1.out).2 bs bt
          clear m0 m1 m2 m3 m4 m5 n0 n1 n2 n3 n4 n5 f0 f1 f2 f3 f4 f5 g0 g1 g2 g3 g4 g5
          revert hst
          generalize World.setCell _ _ _ = wf
          intro hst
          have HF : Hid (Kept Nowhere w wf) := hst.1
          obtain ⟨⟨m0, m1, m2, m3, m4, m5⟩, _⟩ := rows6 hst.2.1
          obtain ⟨⟨n0, n1, n2, n3, n4, n5⟩, _⟩ := rows6 hst.2.2
          clear hst
          refine bodyPost_ret (v := .tuple #[.int .i64 it, bs.v, bt.v]) (by simp [results, Try.results18, go_sem, m0, m1, m2, m3, m4, m5, n0, n1, n2, n3, n4, n5]) rfl ⟨⟨oo, ?_, HB.out⟩, HF.out⟩
          rw [HBS.out.1, HBS.out.2.1, HBS.out.2.2]
end Go.Proofs.Qxb6604039a
