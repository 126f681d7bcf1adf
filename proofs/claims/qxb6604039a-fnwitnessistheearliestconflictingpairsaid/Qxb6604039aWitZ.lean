/-
  ZZWitness: what it is handed, what it lays.
-/
import Derived.Test.Qxb6604039aWitWalk
import Derived.Deep.RegionWith
import Derived.StillTailTactics
namespace Go.Proofs.Qxb6604039a
open Go.RowKit

/-- a matrix of rows in blocks of their own -/
def Mat (w : World) (b n : Nat) (R : Nat → Nat) (L : Nat → Nat) (f : Nat → Nat → Value) : Prop :=
  (∀ k, k < n → w.cell? ⟨b, k, none⟩ = some (.slice (some ⟨R k, 0, none⟩) (L k) (L k))) ∧ ∀ k, k < n → ∀ i, i < L k → w.cell? ⟨R k, i, none⟩ = some (f k i)
def Vec (w : World) (b n : Nat) (f : Nat → Value) : Prop := ∀ i, i < n → w.cell? ⟨b, i, none⟩ = some (f i)

theorem Mat.kept {w w' : World} {b n : Nat} {R L : Nat → Nat} {f : Nat → Nat → Value} (h : Mat w b n R L f) (k : Kept Nowhere w w') : Mat w' b n R L f :=
  ⟨fun i hi => k.nothing_cell (fun _ h => h) (h.1 i hi), fun i hi j hj => k.nothing_cell (fun _ h => h) (h.2 i hi j hj)⟩
theorem Vec.kept {w w' : World} {b n : Nat} {f : Nat → Value} (h : Vec w b n f) (k : Kept Nowhere w w') : Vec w' b n f := fun i hi => k.nothing_cell (fun _ h => h) (h i hi)

/-- what ZZWitness is handed -/
structure ZIn (w : World) (H : Hist) (n nU : Nat) (L : Nat → Nat) (bp bn bv bh ba bq bi bf bl : Nat) (Rp Rn Rv Rh Ra Rq : Nat → Nat) : Prop where
  p : Mat w bp n Rp L (fun k i => .int .i64 (H.X k i).pos)
  d : Mat w bn n Rn L (fun k i => .int .i64 (H.X k i).node)
  v : Mat w bv n Rv L (fun k i => .int .i64 (H.X k i).val)
  h : Mat w bh n Rh L (fun k i => .bool (H.X k i).hv)
  a : Mat w ba n Ra L (fun k i => .int .u8 (H.X k i).act)
  q : Mat w bq n Rq L (fun k i => .bool (H.X k i).pr)
  it : Vec w bi nU (fun u => .int .i64 (H.U u).item)
  fi : Vec w bf nU (fun u => .int .i64 (H.U u).first)
  hi : Vec w bl nU (fun u => .int .i64 (H.U u).hi)

theorem ZIn.kept {w w' : World} {H : Hist} {n nU : Nat} {L : Nat → Nat} {bp bn bv bh ba bq bi bf bl : Nat} {Rp Rn Rv Rh Ra Rq : Nat → Nat} (h : ZIn w H n nU L bp bn bv bh ba bq bi bf bl Rp Rn Rv Rh Ra Rq) (k : Kept Nowhere w w') : ZIn w' H n nU L bp bn bv bh ba bq bi bf bl Rp Rn Rv Rh Ra Rq :=
  ⟨h.p.kept k, h.d.kept k, h.v.kept k, h.h.kept k, h.a.kept k, h.q.kept k, h.it.kept k, h.fi.kept k, h.hi.kept k⟩

/-- what is laid when j items stand -/
structure ZI (w wr : World) (X : Nat → Nat → Stp) (n j : Nat) (L : Nat → Nat) (used : Value) : Prop where
  kept : Kept Nowhere w wr
  size : wr.heap.size = w.heap.size + 5 + 2 * j
  r0 : wr.rowIs w.heap.size 45 6 Stp.zero.cell
  r1 : wr.rowIs (w.heap.size + 1) 45 6 Stp.zero.cell
  s : ∃ f, wr.rowIs (w.heap.size + 1 + 1) 85 37 f ∧ f 1 = .slice (some ⟨w.heap.size + 1 + 1 + 1, 0, none⟩) n n ∧ f 2 = .slice (some ⟨w.heap.size + 1 + 1 + 1 + 1, 0, none⟩) n n ∧ f 5 = used
  items : wr.rowIs (w.heap.size + 1 + 1 + 1) 86 n (fun i => if i < j then .pointer (some ⟨w.heap.size + 5 + 2 * i, 0, none⟩) else .pointer none)
  logs : wr.rowIs (w.heap.size + 1 + 1 + 1 + 1) 87 n (fun i => if i < j then .slice (some ⟨w.heap.size + 6 + 2 * i, 0, none⟩) (L i) (L i) else .slice none 0 0)
  box : ∀ i, i < j → wr.cell? ⟨w.heap.size + 5 + 2 * i, 1, none⟩ = some (.int .i64 (i : Nat))
  row : ∀ i, i < j → wr.rowIs (w.heap.size + 6 + 2 * i) 92 (L i * 6) (fun t => (X i (t / 6)).cell (t % 6))

theorem Try.info86 : (Try.prog.info? 86).map (fun i => (i.zero, i.size, i.bytes)) = some (some (.pointer none), 1, 8) := by kernel_rfl
theorem Try.info87 : (Try.prog.info? 87).map (fun i => (i.zero, i.size, i.bytes)) = some (some (.slice none 0 0), 1, 24) := by kernel_rfl
theorem Try.info92 : (Try.prog.info? 92).map (fun i => (i.zero, i.size, i.bytes)) = some (some (.agg #[.int .i64 0, .int .i64 0, .int .i64 0, .bool false, .int .u8 0, .bool false]), 6, 32) := by kernel_rfl
theorem Try.info94 : (Try.prog.info? 94).map (fun i => (i.zero, i.size, i.bytes)) = some (some (.agg #[.int .i64 0, .int .i64 0, .int .i64 0, .int .i64 0, .int .i64 0, .int .i64 0, .int .i64 0]), 7, 56) := by kernel_rfl

/-- the seven cells of a use -/
def Us.cell7 (s : Us) (f : Nat) : Value := if f = 0 then .int .i64 s.item else if f = 1 then .int .i64 s.first else if f = 6 then .int .i64 s.hi else .int .i64 0
theorem zero7 (i : Nat) : (#[.int .i64 0, .int .i64 0, .int .i64 0, .int .i64 0, .int .i64 0, .int .i64 0, .int .i64 0] : Array Value)[i % 7]! = .int .i64 0 := by
  have h : i % 7 = 0 ∨ i % 7 = 1 ∨ i % 7 = 2 ∨ i % 7 = 3 ∨ i % 7 = 4 ∨ i % 7 = 5 ∨ i % 7 = 6 := by omega
  rcases h with h | h | h | h | h | h | h <;> rw [h] <;> rfl
theorem use_set7 (U : Nat → Us) (j i : Nat) : (if i = j * 7 + 6 then Value.int .i64 (U j).hi else if i = j * 7 + 5 then .int .i64 0 else if i = j * 7 + 4 then .int .i64 0 else if i = j * 7 + 3 then .int .i64 0 else if i = j * 7 + 2 then .int .i64 0 else if i = j * 7 + 1 then .int .i64 (U j).first else if i = j * 7 then .int .i64 (U j).item else if i / 7 < j then (U (i / 7)).cell7 (i % 7) else .int .i64 0) = if i / 7 < j + 1 then (U (i / 7)).cell7 (i % 7) else .int .i64 0 := by
  by_cases h : i / 7 = j
  · subst h
    have h3 : i % 7 = 0 ∨ i % 7 = 1 ∨ i % 7 = 2 ∨ i % 7 = 3 ∨ i % 7 = 4 ∨ i % 7 = 5 ∨ i % 7 = 6 := by omega
    rw [if_pos (show i / 7 < i / 7 + 1 by omega)]
    rcases h3 with h | h | h | h | h | h | h
    · rw [if_neg (by omega), if_neg (by omega), if_neg (by omega), if_neg (by omega), if_neg (by omega), if_neg (by omega), if_pos (by omega), h]; rfl
    · rw [if_neg (by omega), if_neg (by omega), if_neg (by omega), if_neg (by omega), if_neg (by omega), if_pos (by omega), h]; rfl
    · rw [if_neg (by omega), if_neg (by omega), if_neg (by omega), if_neg (by omega), if_pos (by omega), h]; rfl
    · rw [if_neg (by omega), if_neg (by omega), if_neg (by omega), if_pos (by omega), h]; rfl
    · rw [if_neg (by omega), if_neg (by omega), if_pos (by omega), h]; rfl
    · rw [if_neg (by omega), if_pos (by omega), h]; rfl
    · rw [if_pos (by omega), h]; rfl
  · rw [if_neg (by omega), if_neg (by omega), if_neg (by omega), if_neg (by omega), if_neg (by omega), if_neg (by omega), if_neg (by omega)]
    by_cases h2 : i / 7 < j
    · rw [if_pos h2, if_pos (by omega)]
    · rw [if_neg h2, if_neg (by omega)]

theorem zero_cells6 (i : Nat) (h : i < 6) : (#[.int .i64 0, .int .i64 0, .int .i64 0, .bool false, .int .u8 0, .bool false] : Array Value)[i]? = some (Stp.zero.cell i) := by
  have : i = 0 ∨ i = 1 ∨ i = 2 ∨ i = 3 ∨ i = 4 ∨ i = 5 := by omega
  rcases this with rfl | rfl | rfl | rfl | rfl | rfl <;> rfl

theorem row_new {w : World} {c : Array Value} {t : TypeId} {n b : Nat} {f : Nat → Value} (hb : w.heap.size = b) (hn : c.size = n) (hc : ∀ i, i < n → c[i]? = some (f i)) : (w.alloc (.cells c t)).rowIs b t n f := by
  subst hb; subst hn; exact World.rowIs_alloc w c t f hc

theorem row_made {w : World} {z : Value} {t : TypeId} {n b : Nat} (hb : w.heap.size = b) : (w.alloc (.cells (madeCells #[z] n) t)).rowIs b t n (fun _ => z) := by
  subst hb; exact World.rowIs_made w z n t

theorem row_wide {w : World} {c : Array Value} {t : TypeId} {n b : Nat} {f : Nat → Value} (hb : w.heap.size = b) (h : ∀ i, c[i % c.size]! = f i) : (w.alloc (.cells (madeCells c n) t)).rowIs b t n f := by
  subst hb; exact rowIs_wide w c n t f h

theorem ZI.start (w : World) (X : Nat → Nat → Stp) (n : Nat) (L : Nat → Nat) (used : Value) (c : Array Value) (hc : c.size = 37) (h1 : c.getD 1 undef = .slice (some ⟨w.heap.size + 1 + 1 + 1, 0, none⟩) n n) (h2 : c.getD 2 undef = .slice (some ⟨w.heap.size + 1 + 1 + 1 + 1, 0, none⟩) n n) (h5 : c.getD 5 undef = used) :
    ZI w (((((w.alloc (.cells #[.int .i64 0, .int .i64 0, .int .i64 0, .bool false, .int .u8 0, .bool false] 45)).alloc (.cells #[.int .i64 0, .int .i64 0, .int .i64 0, .bool false, .int .u8 0, .bool false] 45)).alloc (.cells c 85)).alloc (.cells (madeCells #[.pointer none] n) 86)).alloc (.cells (madeCells #[.slice none 0 0] n) 87)) X n 0 L used := by
  refine ⟨(((((Kept.refl Nowhere w).alloc _).alloc _).alloc _).alloc _).alloc _, by simp, ?_, ?_, ⟨fun i => c.getD i undef, ?_, h1, h2, h5⟩, ?_, ?_, fun i hi => by omega, fun i hi => by omega⟩
  · exact ((((row_new rfl rfl (fun i hi => zero_cells6 i hi)).alloc _).alloc _).alloc _).alloc _
  · exact (((row_new (Deep.nblk_alloc _ _) rfl (fun i hi => zero_cells6 i hi)).alloc _).alloc _).alloc _
  · exact ((row_new (by simp) hc (fun i hi => by simp [Array.getD, hc, hi])).alloc _).alloc _
  · exact ((row_made (by simp)).alloc _).congr (fun i _ => by simp)
  · exact (row_made (by simp)).congr (fun i _ => by simp)

/-- inside a round: j items stand, the next one's row grows -/
structure ZR (w wr wi : World) (X : Nat → Nat → Stp) (n j t : Nat) (L : Nat → Nat) : Prop where
  kw : Kept Nowhere w wi
  kr : Kept (fun z => z = w.heap.size + 1 + 1 + 1) wr wi
  size : wi.heap.size = wr.heap.size + 1 + 1
  items : wi.rowIs (w.heap.size + 1 + 1 + 1) 86 n (fun i => if i < j + 1 then .pointer (some ⟨w.heap.size + 5 + 2 * i, 0, none⟩) else .pointer none)
  box : wi.cell? ⟨wr.heap.size, 1, none⟩ = some (.int .i64 (j : Nat))
  row : wi.rowIs (wr.heap.size + 1) 92 (L j * 6) (fun i => if i / 6 < t then (X j (i / 6)).cell (i % 6) else Stp.zero.cell (i % 6))

theorem ZR.start {w wr : World} {X : Nat → Nat → Stp} {n j : Nat} {L : Nat → Nat} {used : Value} (h : ZI w wr X n j L used) (c : Array Value) (hc : c[1]? = some (.int .i64 (j : Nat))) (l : Nat) (hl : L j = l) :
    ZR w wr (((wr.alloc (.cells c 89)).setCell ⟨w.heap.size + 1 + 1 + 1, j, none⟩ (.pointer (some ⟨wr.heap.size, 0, none⟩))).alloc (.cells (madeCells #[.int .i64 0, .int .i64 0, .int .i64 0, .bool false, .int .u8 0, .bool false] (l * 6)) 92)) X n j 0 L := by
  subst hl
  have hs := h.size
  refine ⟨((h.kept.alloc _).setCell (.inr (by show _ ≤ _ + 1 + 1 + 1; omega)) _).alloc _, (((Kept.refl (fun z => z = w.heap.size + 1 + 1 + 1) wr).alloc _).setCell (a := ⟨w.heap.size + 1 + 1 + 1, j, none⟩) (.inl rfl) _).alloc _, by simp, ?_, ?_, ?_⟩
  · refine (((h.items.alloc _).set j _).alloc _).congr (fun i hi => ?_)
    by_cases e : i = j
    · subst e; simp [hs]
    · simp only [if_neg e]; by_cases h1 : i < j
      · rw [if_pos h1, if_pos (by omega)]
      · rw [if_neg h1, if_neg (by omega)]
  · have k2 : ∀ ob, Kept Nowhere ((wr.alloc (.cells c 89)).setCell ⟨w.heap.size + 1 + 1 + 1, j, none⟩ (.pointer (some ⟨wr.heap.size, 0, none⟩))) (((wr.alloc (.cells c 89)).setCell ⟨w.heap.size + 1 + 1 + 1, j, none⟩ (.pointer (some ⟨wr.heap.size, 0, none⟩))).alloc ob) := fun ob => (Kept.refl _ _).alloc _
    refine (k2 _).nothing_cell (fun _ h => h) ?_
    have k1 : Kept (fun z => z = w.heap.size + 1 + 1 + 1) (wr.alloc (.cells c 89)) ((wr.alloc (.cells c 89)).setCell ⟨w.heap.size + 1 + 1 + 1, j, none⟩ (.pointer (some ⟨wr.heap.size, 0, none⟩))) := (Kept.refl (fun z => z = w.heap.size + 1 + 1 + 1) _).setCell (a := ⟨w.heap.size + 1 + 1 + 1, j, none⟩) (.inl rfl) _
    refine cell_kept k1 ?_ (by intro (hq : _ = _); omega)
    simp only [World.cell?, Deep.blk_alloc_new]
    simpa using hc
  · exact (row_wide (by simp) zero6).congr (fun i _ => by simp)

theorem ZR.step {w wr wi : World} {X : Nat → Nat → Stp} {n j t : Nat} {L : Nat → Nat} (h : ZR w wr wi X n j t L) (hw : w.heap.size + 5 ≤ wr.heap.size) :
    ZR w wr ((((((wi.setCell ⟨wr.heap.size + 1, t * 6, none⟩ (.int .i64 (X j t).pos)).setCell ⟨wr.heap.size + 1, t * 6 + 1, none⟩ (.int .i64 (X j t).node)).setCell ⟨wr.heap.size + 1, t * 6 + 2, none⟩ (.int .i64 (X j t).val)).setCell ⟨wr.heap.size + 1, t * 6 + 3, none⟩ (.bool (X j t).hv)).setCell ⟨wr.heap.size + 1, t * 6 + 4, none⟩ (.int .u8 (X j t).act)).setCell ⟨wr.heap.size + 1, t * 6 + 5, none⟩ (.bool (X j t).pr)) X n j (t + 1) L := by
  have hW : ∀ {S : Nat → Prop} {w0 : World}, Kept S w0 wi → w0.heap.size ≤ wr.heap.size + 1 → Kept S w0 ((((((wi.setCell ⟨wr.heap.size + 1, t * 6, none⟩ (.int .i64 (X j t).pos)).setCell ⟨wr.heap.size + 1, t * 6 + 1, none⟩ (.int .i64 (X j t).node)).setCell ⟨wr.heap.size + 1, t * 6 + 2, none⟩ (.int .i64 (X j t).val)).setCell ⟨wr.heap.size + 1, t * 6 + 3, none⟩ (.bool (X j t).hv)).setCell ⟨wr.heap.size + 1, t * 6 + 4, none⟩ (.int .u8 (X j t).act)).setCell ⟨wr.heap.size + 1, t * 6 + 5, none⟩ (.bool (X j t).pr)) := fun k hk =>
    (((((k.setCell (.inr hk) _).setCell (.inr hk) _).setCell (.inr hk) _).setCell (.inr hk) _).setCell (.inr hk) _).setCell (.inr hk) _
  have kI : Kept (fun z => z = wr.heap.size + 1) wi ((((((wi.setCell ⟨wr.heap.size + 1, t * 6, none⟩ (.int .i64 (X j t).pos)).setCell ⟨wr.heap.size + 1, t * 6 + 1, none⟩ (.int .i64 (X j t).node)).setCell ⟨wr.heap.size + 1, t * 6 + 2, none⟩ (.int .i64 (X j t).val)).setCell ⟨wr.heap.size + 1, t * 6 + 3, none⟩ (.bool (X j t).hv)).setCell ⟨wr.heap.size + 1, t * 6 + 4, none⟩ (.int .u8 (X j t).act)).setCell ⟨wr.heap.size + 1, t * 6 + 5, none⟩ (.bool (X j t).pr)) :=
    ((((((Kept.refl (fun z => z = wr.heap.size + 1) wi).setCell (a := ⟨wr.heap.size + 1, t * 6, none⟩) (.inl rfl) _).setCell (a := ⟨wr.heap.size + 1, t * 6 + 1, none⟩) (.inl rfl) _).setCell (a := ⟨wr.heap.size + 1, t * 6 + 2, none⟩) (.inl rfl) _).setCell (a := ⟨wr.heap.size + 1, t * 6 + 3, none⟩) (.inl rfl) _).setCell (a := ⟨wr.heap.size + 1, t * 6 + 4, none⟩) (.inl rfl) _).setCell (a := ⟨wr.heap.size + 1, t * 6 + 5, none⟩) (.inl rfl) _
  refine ⟨hW h.kw (by omega), hW h.kr (by omega), by simp only [Deep.nblk_setCell]; exact h.size, kI.row h.items (by intro (hq : _ = _); omega), cell_kept kI h.box (by intro (hq : _ = _); omega), ?_⟩
  exact ((((((h.row.set _ _).set _ _).set _ _).set _ _).set _ _).set _ _).congr (fun i hi => step_set (X j) t i)

theorem ZR.done {w wr wi : World} {X : Nat → Nat → Stp} {n j l : Nat} {L : Nat → Nat} {used : Value} (h : ZR w wr wi X n j l L) (hz : ZI w wr X n j L used) (hl : L j = l) :
    ZI w (wi.setCell ⟨w.heap.size + 1 + 1 + 1 + 1, j, none⟩ (.slice (some ⟨wr.heap.size + 1, 0, none⟩) l l)) X n (j + 1) L used := by
  have hs := hz.size
  have kL : Kept (fun z => z = w.heap.size + 1 + 1 + 1 + 1) wi (wi.setCell ⟨w.heap.size + 1 + 1 + 1 + 1, j, none⟩ (.slice (some ⟨wr.heap.size + 1, 0, none⟩) l l)) := (Kept.refl (fun z => z = w.heap.size + 1 + 1 + 1 + 1) _).setCell (a := ⟨w.heap.size + 1 + 1 + 1 + 1, j, none⟩) (.inl rfl) _
  have r : ∀ {b : Nat} {t : TypeId} {m : Nat} {f : Nat → Value}, wr.rowIs b t m f → b ≠ w.heap.size + 1 + 1 + 1 → b ≠ w.heap.size + 1 + 1 + 1 + 1 → (wi.setCell ⟨w.heap.size + 1 + 1 + 1 + 1, j, none⟩ (.slice (some ⟨wr.heap.size + 1, 0, none⟩) l l)).rowIs b t m f := fun hr h1 h2 => kL.row (h.kr.row hr h1) h2
  obtain ⟨f, hf, f1, f2, f5⟩ := hz.s
  refine ⟨h.kw.setCell (.inr (by show _ ≤ _ + 1 + 1 + 1 + 1; omega)) _, by rw [Deep.nblk_setCell, h.size]; omega, r hz.r0 (by omega) (by omega), r hz.r1 (by omega) (by omega), ⟨f, r hf (by omega) (by omega), f1, f2, f5⟩, kL.row h.items (by intro (hq : _ = _); omega), ?_, fun i hi => ?_, fun i hi => ?_⟩
  · refine ((h.kr.row hz.logs (by intro (hq : _ = _); omega)).set j _).congr (fun i hi => ?_)
    by_cases e : i = j
    · subst e
      simp only [if_true]
      rw [if_pos (by omega), hl, hs]
      congr 3
      omega
    · simp only [if_neg e]; by_cases h1 : i < j
      · rw [if_pos h1, if_pos (by omega)]
      · rw [if_neg h1, if_neg (by omega)]
  · by_cases e : i = j
    · subst e
      refine cell_kept kL ?_ (by intro (hq : _ = _); omega)
      rw [← hs]; exact h.box
    · exact cell_kept kL (cell_kept h.kr (hz.box i (by omega)) (by intro (hq : _ = _); omega)) (by intro (hq : _ = _); omega)
  · by_cases e : i = j
    · subst e
      have := h.row
      rw [show wr.heap.size + 1 = w.heap.size + 6 + 2 * i by omega] at this
      exact kL.row (this.congr (fun t ht => by rw [if_pos (by omega)])) (by intro (hq : _ = _); omega)
    · exact r (hz.row i (by omega)) (by omega) (by omega)

theorem ZR.drew {w wr wi : World} {X : Nat → Nat → Stp} {n j t : Nat} {L : Nat → Nat} (h : ZR w wr wi X n j t L) : ZR w wr wi.drew X n j t L := ⟨h.kw.drew, h.kr.drew, h.size, h.items.drew, h.box, h.row.drew⟩

/-- the uses, t of them laid -/
structure ZU (w wr wi : World) (U : Nat → Us) (n nU t : Nat) (used : Value) : Prop where
  kw : Kept Nowhere w wi
  kr : Kept (fun z => z = w.heap.size + 1 + 1) wr wi
  s : ∃ f, wi.rowIs (w.heap.size + 1 + 1) 85 37 f ∧ f 1 = .slice (some ⟨w.heap.size + 1 + 1 + 1, 0, none⟩) n n ∧ f 2 = .slice (some ⟨w.heap.size + 1 + 1 + 1 + 1, 0, none⟩) n n ∧ f 4 = .slice (some ⟨wr.heap.size, 0, none⟩) nU nU ∧ f 5 = used
  size : wi.heap.size = wr.heap.size + 1
  uses : wi.rowIs wr.heap.size 94 (nU * 7) (fun i => if i / 7 < t then (U (i / 7)).cell7 (i % 7) else .int .i64 0)

theorem ZU.drew {w wr wi : World} {U : Nat → Us} {n nU t : Nat} {used : Value} (h : ZU w wr wi U n nU t used) : ZU w wr wi.drew U n nU t used := ⟨h.kw.drew, h.kr.drew, h.s, h.size, h.uses.drew⟩

theorem ZU.start {w wr : World} {X : Nat → Nat → Stp} {U : Nat → Us} {n nU : Nat} {L : Nat → Nat} {used : Value} (h : ZI w wr X n n L used) :
    ZU w wr ((wr.alloc (.cells (madeCells #[.int .i64 0, .int .i64 0, .int .i64 0, .int .i64 0, .int .i64 0, .int .i64 0, .int .i64 0] (nU * 7)) 94)).setCell ⟨w.heap.size + 1 + 1, 4, none⟩ (.slice (some ⟨wr.heap.size, 0, none⟩) nU nU)) U n nU 0 used := by
  have hs := h.size
  obtain ⟨f, hf, f1, f2, f5⟩ := h.s
  refine ⟨(h.kept.alloc _).setCell (.inr (show _ ≤ _ + 1 + 1 by omega)) _, ((Kept.refl (fun z => z = w.heap.size + 1 + 1) wr).alloc _).setCell (a := ⟨w.heap.size + 1 + 1, 4, none⟩) (.inl rfl) _, ⟨_, (hf.alloc _).set 4 _, f1, f2, rfl, f5⟩, by simp, ?_⟩
  exact ((row_wide rfl zero7).setOther (by show _ ≠ _ + 1 + 1; omega) _).congr (fun i _ => by simp)

theorem ZU.step {w wr wi : World} {U : Nat → Us} {n nU t : Nat} {used : Value} (h : ZU w wr wi U n nU t used) (hw : w.heap.size + 5 ≤ wr.heap.size) :
    ZU w wr (((((((wi.setCell ⟨wr.heap.size, t * 7, none⟩ (.int .i64 (U t).item)).setCell ⟨wr.heap.size, t * 7 + 1, none⟩ (.int .i64 (U t).first)).setCell ⟨wr.heap.size, t * 7 + 2, none⟩ (.int .i64 0)).setCell ⟨wr.heap.size, t * 7 + 3, none⟩ (.int .i64 0)).setCell ⟨wr.heap.size, t * 7 + 4, none⟩ (.int .i64 0)).setCell ⟨wr.heap.size, t * 7 + 5, none⟩ (.int .i64 0)).setCell ⟨wr.heap.size, t * 7 + 6, none⟩ (.int .i64 (U t).hi)) U n nU (t + 1) used := by
  have hW : ∀ {S : Nat → Prop} {w0 : World}, Kept S w0 wi → S wr.heap.size ∨ w0.heap.size ≤ wr.heap.size → Kept S w0 (((((((wi.setCell ⟨wr.heap.size, t * 7, none⟩ (.int .i64 (U t).item)).setCell ⟨wr.heap.size, t * 7 + 1, none⟩ (.int .i64 (U t).first)).setCell ⟨wr.heap.size, t * 7 + 2, none⟩ (.int .i64 0)).setCell ⟨wr.heap.size, t * 7 + 3, none⟩ (.int .i64 0)).setCell ⟨wr.heap.size, t * 7 + 4, none⟩ (.int .i64 0)).setCell ⟨wr.heap.size, t * 7 + 5, none⟩ (.int .i64 0)).setCell ⟨wr.heap.size, t * 7 + 6, none⟩ (.int .i64 (U t).hi)) := fun k hk =>
    ((((((k.setCell (a := ⟨wr.heap.size, t * 7, none⟩) hk _).setCell (a := ⟨wr.heap.size, t * 7 + 1, none⟩) hk _).setCell (a := ⟨wr.heap.size, t * 7 + 2, none⟩) hk _).setCell (a := ⟨wr.heap.size, t * 7 + 3, none⟩) hk _).setCell (a := ⟨wr.heap.size, t * 7 + 4, none⟩) hk _).setCell (a := ⟨wr.heap.size, t * 7 + 5, none⟩) hk _).setCell (a := ⟨wr.heap.size, t * 7 + 6, none⟩) hk _
  have kI := hW (S := fun z => z = wr.heap.size) (Kept.refl _ wi) (.inl rfl)
  obtain ⟨f, hf, ff⟩ := h.s
  refine ⟨hW h.kw (.inr (by omega)), hW h.kr (.inr (Nat.le_refl _)), ⟨f, kI.row hf (by intro (hq : _ = _); omega), ff⟩, by simp only [Deep.nblk_setCell]; exact h.size, ?_⟩
  exact (((((((h.uses.set _ _).set _ _).set _ _).set _ _).set _ _).set _ _).set _ _).congr (fun i hi => use_set7 U t i)

/-- all that witness reads stands -/
theorem ws_of {w wr wi : World} {H : Hist} {n nU nu ku x bu ou : Nat} {L : Nat → Nat} (hz : ZI w wr H.X n n L (.slice (some ⟨bu, ou, none⟩) nu ku)) (hu : ZU w wr wi H.U n nU nU (.slice (some ⟨bu, ou, none⟩) nu ku))
    (hA : w.cell? ⟨bu, ou + x, none⟩ = some (.int .i64 H.lo) ∧ w.cell? ⟨bu, ou + (x + 1), none⟩ = some (.int .i64 H.hi) ∧ H.lo ≤ H.hi ∧ H.hi ≤ nU ∧ (∀ k, k < n → L k ≤ 1048576) ∧ UOK n L H.U H.lo H.hi ∧ PosOK L H.X n ∧ (∀ k, k < n → OrdRow (H.X k) H.x (L k)))
    (hx : x + 1 < nu) (hnu : nu ≤ 1048576) (hkU : nU ≤ 1048576) (hn : n ≤ 1048576) :
    WS wi H (w.heap.size + 1 + 1) (w.heap.size + 1 + 1 + 1) (w.heap.size + 1 + 1 + 1 + 1) wr.heap.size bu ou n nU nu n n nU ku x (fun i => w.heap.size + 5 + 2 * i) (fun i => some ⟨w.heap.size + 6 + 2 * i, 0, none⟩) L L := by
  obtain ⟨f, hf, f1, f2, f4, f5⟩ := hu.s
  have hs := hz.size
  obtain ⟨a1, a2, a3, a4, a5, a6, a7, a8⟩ := hA
  have s1 := hf.cell (i := 1) (by omega)
  have s2 := hf.cell (i := 2) (by omega)
  have s4 := hf.cell (i := 4) (by omega)
  have s5 := hf.cell (i := 5) (by omega)
  rw [f1] at s1
  rw [f2] at s2
  rw [f4] at s4
  rw [f5] at s5
  have r : ∀ {b : Nat} {t : TypeId} {m : Nat} {g : Nat → Value}, wr.rowIs b t m g → b ≠ w.heap.size + 1 + 1 → wi.rowIs b t m g := fun hr h1 => hu.kr.row hr h1
  refine ⟨s1, s2, s4, s5, fun k hk => ?_, fun k hk => ?_, fun k hk => ?_, fun u hk => ?_, hu.kw.nothing_cell (fun _ h => h) a1, hu.kw.nothing_cell (fun _ h => h) a2, hx, hnu, a3, a4, Nat.le_refl _, hkU, hn, a5, a6, a7, a8⟩
  · have := (r hz.items (by omega)).cell hk
    rwa [if_pos hk] at this
  · have := (r hz.logs (by omega)).cell hk
    rwa [if_pos hk] at this
  · exact StepsAt.of_row (r (hz.row k hk) (by omega))
  · have q : ∀ g, g < 7 → wi.cell? ⟨wr.heap.size, u * 7 + g, none⟩ = some ((H.U u).cell7 g) := fun g hg => by
      have := hu.uses.cell (i := u * 7 + g) (by omega)
      rwa [show (u * 7 + g) / 7 = u by omega, show (u * 7 + g) % 7 = g by omega, if_pos hk] at this
    exact ⟨q 0 (by omega), q 1 (by omega), q 2 (by omega), q 3 (by omega), q 4 (by omega), q 5 (by omega), q 6 (by omega)⟩

theorem rows6 {W : World} {b : Nat} {s : Stp} (h : W.rowIs b 45 6 s.cell) : (W.cell? ⟨b, 0, none⟩ = some (.int .i64 s.pos) ∧ W.cell? ⟨b, 1, none⟩ = some (.int .i64 s.node) ∧ W.cell? ⟨b, 2, none⟩ = some (.int .i64 s.val) ∧ W.cell? ⟨b, 3, none⟩ = some (.bool s.hv) ∧ W.cell? ⟨b, 4, none⟩ = some (.int .u8 s.act) ∧ W.cell? ⟨b, 5, none⟩ = some (.bool s.pr)) ∧ W.frozen? ⟨b, 0, none⟩ = false ∧ W.frozen? ⟨b, 1, none⟩ = false ∧ W.frozen? ⟨b, 2, none⟩ = false ∧ W.frozen? ⟨b, 3, none⟩ = false ∧ W.frozen? ⟨b, 4, none⟩ = false ∧ W.frozen? ⟨b, 5, none⟩ = false :=
  ⟨⟨h.cell (i := 0) (by omega), h.cell (i := 1) (by omega), h.cell (i := 2) (by omega), h.cell (i := 3) (by omega), h.cell (i := 4) (by omega), h.cell (i := 5) (by omega)⟩, h.frozen 0, h.frozen 1, h.frozen 2, h.frozen 3, h.frozen 4, h.frozen 5⟩

theorem set6 (s : Stp) (f : Nat → Value) (i : Nat) (hi : i < 6) : (if i = 5 then Value.bool s.pr else if i = 4 then .int .u8 s.act else if i = 3 then .bool s.hv else if i = 2 then .int .i64 s.val else if i = 1 then .int .i64 s.node else if i = 0 then .int .i64 s.pos else f i) = s.cell i := by
  have : i = 0 ∨ i = 1 ∨ i = 2 ∨ i = 3 ∨ i = 4 ∨ i = 5 := by omega
  rcases this with rfl | rfl | rfl | rfl | rfl | rfl <;> rfl

theorem store66 {w0 W : World} {B : Nat} {f g : Nat → Value} (hk : Kept Nowhere w0 W) (hB : w0.heap.size ≤ B) (h0 : W.rowIs B 45 6 f) (h1 : W.rowIs (B + 1) 45 6 g) (s t : Stp) :
    Kept Nowhere w0 ((((((((((((W.setCell ⟨B, 0, none⟩ (.int .i64 s.pos)).setCell ⟨B, 1, none⟩ (.int .i64 s.node)).setCell ⟨B, 2, none⟩ (.int .i64 s.val)).setCell ⟨B, 3, none⟩ (.bool s.hv)).setCell ⟨B, 4, none⟩ (.int .u8 s.act)).setCell ⟨B, 5, none⟩ (.bool s.pr)).setCell ⟨B + 1, 0, none⟩ (.int .i64 t.pos)).setCell ⟨B + 1, 1, none⟩ (.int .i64 t.node)).setCell ⟨B + 1, 2, none⟩ (.int .i64 t.val)).setCell ⟨B + 1, 3, none⟩ (.bool t.hv)).setCell ⟨B + 1, 4, none⟩ (.int .u8 t.act)).setCell ⟨B + 1, 5, none⟩ (.bool t.pr)) ∧ ((((((((((((W.setCell ⟨B, 0, none⟩ (.int .i64 s.pos)).setCell ⟨B, 1, none⟩ (.int .i64 s.node)).setCell ⟨B, 2, none⟩ (.int .i64 s.val)).setCell ⟨B, 3, none⟩ (.bool s.hv)).setCell ⟨B, 4, none⟩ (.int .u8 s.act)).setCell ⟨B, 5, none⟩ (.bool s.pr)).setCell ⟨B + 1, 0, none⟩ (.int .i64 t.pos)).setCell ⟨B + 1, 1, none⟩ (.int .i64 t.node)).setCell ⟨B + 1, 2, none⟩ (.int .i64 t.val)).setCell ⟨B + 1, 3, none⟩ (.bool t.hv)).setCell ⟨B + 1, 4, none⟩ (.int .u8 t.act)).setCell ⟨B + 1, 5, none⟩ (.bool t.pr)).rowIs B 45 6 s.cell ∧ ((((((((((((W.setCell ⟨B, 0, none⟩ (.int .i64 s.pos)).setCell ⟨B, 1, none⟩ (.int .i64 s.node)).setCell ⟨B, 2, none⟩ (.int .i64 s.val)).setCell ⟨B, 3, none⟩ (.bool s.hv)).setCell ⟨B, 4, none⟩ (.int .u8 s.act)).setCell ⟨B, 5, none⟩ (.bool s.pr)).setCell ⟨B + 1, 0, none⟩ (.int .i64 t.pos)).setCell ⟨B + 1, 1, none⟩ (.int .i64 t.node)).setCell ⟨B + 1, 2, none⟩ (.int .i64 t.val)).setCell ⟨B + 1, 3, none⟩ (.bool t.hv)).setCell ⟨B + 1, 4, none⟩ (.int .u8 t.act)).setCell ⟨B + 1, 5, none⟩ (.bool t.pr)).rowIs (B + 1) 45 6 t.cell := by
  have o1 : w0.heap.size ≤ B + 1 := by omega
  have n1 : B + 1 ≠ B := by omega
  have n2 : B ≠ B + 1 := by omega
  refine ⟨?_, ?_, ?_⟩
  · exact (((((((((((hk.setCell (.inr hB) _).setCell (.inr hB) _).setCell (.inr hB) _).setCell (.inr hB) _).setCell (.inr hB) _).setCell (.inr hB) _).setCell (.inr o1) _).setCell (.inr o1) _).setCell (.inr o1) _).setCell (.inr o1) _).setCell (.inr o1) _).setCell (.inr o1) _
  · refine World.rowIs.congr (((((((((((((h0.set _ _).set _ _).set _ _).set _ _).set _ _).set _ _).setOther n2 _).setOther n2 _).setOther n2 _).setOther n2 _).setOther n2 _).setOther n2 _)) (fun i hi => set6 s f i hi)
  · refine World.rowIs.congr (((((((((((((h1.setOther n1 _).setOther n1 _).setOther n1 _).setOther n1 _).setOther n1 _).setOther n1 _).set _ _).set _ _).set _ _).set _ _).set _ _).set _ _)) (fun i hi => set6 t g i hi)

def itemOf (H : Hist) : Option (Nat × Nat × Nat) → Int
  | none => -1
  | some c => (H.U c.1).item

set_option maxRecDepth 100000 in
set_option maxHeartbeats 2000000 in
theorem zzwitness28 (H : Hist) (n nU nu ku x bu ou : Nat) (L : Nat → Nat) (bp bn bv bh ba bq bi bf bl : Nat) (Rp Rn Rv Rh Ra Rq : Nat → Nat) (w : World)
    (h : ZIn w H n nU L bp bn bv bh ba bq bi bf bl Rp Rn Rv Rh Ra Rq) (hxx : H.x = x)
    (cx : w.cell? ⟨bu, ou + x, none⟩ = some (.int .i64 H.lo)) (cx1 : w.cell? ⟨bu, ou + (x + 1), none⟩ = some (.int .i64 H.hi)) (hx : x + 1 < nu) (hnu : nu ≤ 1048576)
    (hlh : H.lo ≤ H.hi) (hhU : H.hi ≤ nU) (hkU : nU ≤ 1048576) (hn : n ≤ 1048576) (hL : ∀ k, k < n → L k ≤ 1048576) (dom : UOK n L H.U H.lo H.hi) (pos : PosOK L H.X n) (ord : ∀ k, k < n → OrdRow (H.X k) H.x (L k)) :
    Calls Try.prog 28 #[.slice (some ⟨bp, 0, none⟩) n n, .slice (some ⟨bn, 0, none⟩) n n, .slice (some ⟨bv, 0, none⟩) n n, .slice (some ⟨bh, 0, none⟩) n n, .slice (some ⟨ba, 0, none⟩) n n, .slice (some ⟨bq, 0, none⟩) n n, .slice (some ⟨bi, 0, none⟩) nU nU, .slice (some ⟨bf, 0, none⟩) nU nU, .slice (some ⟨bl, 0, none⟩) nU nU, .slice (some ⟨bu, ou, none⟩) nu ku, .int .i64 (x : Nat), .int .i64 H.y] w
      fun e w' => (∃ o, e = .returned (.tuple #[.int .i64 (itemOf H o), (bS H o).v, (bT H o).v]) ∧ BestOf H (SeenU H.lo H.hi) o) ∧ Kept Nowhere w w' := by
  have HIn : Hid (ZIn w H n nU L bp bn bv bh ba bq bi bf bl Rp Rn Rv Rh Ra Rq ∧ H.x = x) := ⟨h, hxx⟩
  have HA : Hid (w.cell? ⟨bu, ou + x, none⟩ = some (.int .i64 H.lo) ∧ w.cell? ⟨bu, ou + (x + 1), none⟩ = some (.int .i64 H.hi) ∧ H.lo ≤ H.hi ∧ H.hi ≤ nU ∧ (∀ k, k < n → L k ≤ 1048576) ∧ UOK n L H.U H.lo H.hi ∧ PosOK L H.X n ∧ (∀ k, k < n → OrdRow (H.X k) H.x (L k))) := ⟨cx, cx1, hlh, hhU, hL, dom, pos, ord⟩
  clear h hxx cx cx1 hlh hhU hL dom pos ord
  obtain ⟨y, hy⟩ : ∃ y, H.y = y := ⟨_, rfl⟩
  have HY : Hid (H.y = y) := hy
  rw [hy]
  clear hy
  have mk1 := run_make_row' (P := Try.prog) 78 86 (.pointer none) 8 Try.underlying78 Try.info86 rfl .i64 .i64 n (by omega) (by omega)
  have mk2 := run_make_row' (P := Try.prog) 79 87 (.slice none 0 0) 24 Try.underlying79 Try.info87 rfl .i64 .i64 n (by omega) (by omega)
  go_enter Try.func28, Try.ntmps28
  go_wp2
  go_loopg [51] n (fun gk v51 wr => ∃ j : Nat, j + gk = n ∧ v51 = .int .i64 j ∧ Hid (ZI w wr H.X n j L (.slice (some ⟨bu, ou, none⟩) nu ku)))
  case atStart => exact ⟨0, by omega, rfl, ZI.start w H.X n L _ _ rfl rfl rfl rfl⟩
  case round =>
    obtain ⟨j, hjk, rfl, HZ⟩ := hrel
    by_cases hj : j < n
    · have hjI : (j : Int) < (n : Int) := by omega
      obtain ⟨f, hf, f1, f2, f5⟩ := HZ.out.s
      have s1 := hf.cell (i := 1) (by omega)
      rw [f1] at s1
      have c1 := fun ob => (HZ.out.items.alloc ob).cell hj
      simp only [Nat.lt_irrefl, if_false] at c1
      have z1 := fun ob => (HZ.out.items.alloc ob).frozen j
      obtain ⟨q, rfl⟩ : ∃ q, gk = q + 1 := ⟨gk - 1, by omega⟩
      clear f1 f2 f5 hf
      go_upto_region 8 with (fail)
      obtain ⟨l, hl⟩ : ∃ l, L j = l := ⟨_, rfl⟩
      have hlb : l ≤ 1048576 := by rw [← hl]; exact HA.out.2.2.2.2.1 j hj
      have hs5 := HZ.out.size
      have R0 := ZR.start HZ.out #[.string { data := #[] }, .int .i64 (j : Nat), .slice none 0 0, .int .i64 0, .bool false] rfl l hl
      have kA := (HZ.out.kept.alloc (.cells #[.string { data := #[] }, .int .i64 (j : Nat), .slice none 0 0, .int .i64 0, .bool false] 89)).setCell (a := ⟨w.heap.size + 1 + 1 + 1, j, none⟩) (.inr (show _ ≤ _ + 1 + 1 + 1 by omega)) (.pointer (some ⟨wr.heap.size, 0, none⟩))
      have sA : ((wr.alloc (.cells #[.string { data := #[] }, .int .i64 (j : Nat), .slice none 0 0, .int .i64 0, .bool false] 89)).setCell ⟨w.heap.size + 1 + 1 + 1, j, none⟩ (.pointer (some ⟨wr.heap.size, 0, none⟩))).heap.size = wr.heap.size + 1 := by simp
      revert R0 kA sA
      generalize World.setCell _ _ _ = wa
      intro R0 kA sA
      have HR0 : Hid (ZR w wr (wa.alloc (.cells (madeCells #[.int .i64 0, .int .i64 0, .int .i64 0, .bool false, .int .u8 0, .bool false] (l * 6)) 92)) H.X n j 0 L) := R0
      have HKA : Hid (Kept Nowhere w wa) := kA
      have HL : Hid (L j = l) := hl
      have cp : wa.cell? ⟨bp, j, none⟩ = some (.slice (some ⟨Rp j, 0, none⟩) l l) := by
        have := (HIn.out.1.kept HKA.out).p.1 j hj
        rwa [hl] at this
      have cp2 : ∀ ob, (wa.alloc ob).cell? ⟨bp, j, none⟩ = some (.slice (some ⟨Rp j, 0, none⟩) l l) := fun ob => ((Kept.refl Nowhere wa).alloc ob).nothing_cell (fun _ h => h) cp
      have mk3 := run_make_wide (P := Try.prog) 87 92 _ 6 32 Try.underlying87 Try.info92 .i64 .i64 l (by omega) (by omega) wa
      rw [sA] at mk3
      have HS5 : Hid (wr.heap.size = w.heap.size + 5 + 2 * j ∧ wa.heap.size = wr.heap.size + 1) := ⟨hs5, sA⟩
      clear hl R0 kA sA hs5 s1 c1 z1 mk1 mk2
      go_wp2
      go_loopg [74] l (fun ik v74 wi => ∃ t : Nat, t + ik = l ∧ v74 = .int .i64 t ∧ Hid (ZR w wr wi H.X n j t L))
      case atStart => exact ⟨0, by omega, rfl, HR0.out⟩
      case round =>
        obtain ⟨t, htk, rfl, HT⟩ := hrel
        rename World => wi
        by_cases ht : t < l
        · have htI : (t : Int) < (l : Int) := by omega
          have KI : Hid (ZIn wi H n nU L bp bn bv bh ba bq bi bf bl Rp Rn Rv Rh Ra Rq) := HIn.out.1.kept HT.out.kw
          have htL : t < L j := by have := HL.out; omega
          have p0 := KI.out.p.1 j hj
          have p1 := KI.out.p.2 j hj t htL
          have d0 := KI.out.d.1 j hj
          have d1 := KI.out.d.2 j hj t htL
          have v0 := KI.out.v.1 j hj
          have v1 := KI.out.v.2 j hj t htL
          have h0 := KI.out.h.1 j hj
          have h1 := KI.out.h.2 j hj t htL
          have a0 := KI.out.a.1 j hj
          have a1 := KI.out.a.2 j hj t htL
          have q0 := KI.out.q.1 j hj
          have q1 := KI.out.q.2 j hj t htL
          have g0 := HT.out.row.cell (i := t * 6) (by omega)
          have g1 := HT.out.row.cell (i := t * 6 + 1) (by omega)
          have g2 := HT.out.row.cell (i := t * 6 + 2) (by omega)
          have g3 := HT.out.row.cell (i := t * 6 + 3) (by omega)
          have g4 := HT.out.row.cell (i := t * 6 + 4) (by omega)
          have g5 := HT.out.row.cell (i := t * 6 + 5) (by omega)
          have z0 := HT.out.row.frozen (t * 6)
          have z1 := HT.out.row.frozen (t * 6 + 1)
          have z2 := HT.out.row.frozen (t * 6 + 2)
          have z3 := HT.out.row.frozen (t * 6 + 3)
          have z4 := HT.out.row.frozen (t * 6 + 4)
          have z5 := HT.out.row.frozen (t * 6 + 5)
          rw [HL.out] at p0 d0 v0 h0 a0 q0
          obtain ⟨q2, rfl⟩ : ∃ q, gk = q + 1 := ⟨gk - 1, by omega⟩
          clear htL mk3 cp cp2
          go_wp2
          go_still_tail 46, (by kernel_rfl)
          rw [show ({ heap := wi.heap, tape := wi.tape, drawn := wi.drawn + 1, os := wi.os, output := wi.output } : World) = wi.drew from rfl]
          go_wp2
          go_roundg q2
          case measure => omega
          case rel => exact ⟨t + 1, by omega, by go_num, (HT.out.step (by have := HS5.out.1; omega)).drew⟩
        · obtain ⟨f, hf, f1, f2, f5⟩ := HZ.out.s
          have s2 := (HT.out.kr.row hf (by intro (hq : _ = _); omega)).cell (i := 2) (by omega)
          rw [f2] at s2
          have hlg := HT.out.kr.row HZ.out.logs (by intro (hq : _ = _); omega)
          have g1 := hlg.cell hj
          have z1 := hlg.frozen j
          clear f1 f2 f5 hf mk3 cp cp2 hlg
          go_wp2
          go_roundg q
          case measure => omega
          case rel =>
            obtain rfl : t = l := by omega
            exact ⟨j + 1, by omega, by go_num, HT.out.done HZ.out HL.out⟩
    · obtain rfl : j = n := by omega
      have mk4 := run_make_wide (P := Try.prog) 80 94 _ 7 56 Try.underlying80 Try.info94 .i64 .i64 nU (by omega) (by omega)
      obtain ⟨f, hf, f1, f2, f5⟩ := HZ.out.s
      have s4 := fun ob => (hf.alloc ob).cell (i := 4) (by omega)
      have z4 := fun ob => (hf.alloc ob).frozen 4
      clear f1 f2 f5 hf mk1 mk2
      go_upto_region 17 with (fail)
      have U0 := ZU.start (U := H.U) (nU := nU) HZ.out
      revert U0
      generalize World.setCell _ _ _ = wa
      intro U0
      have HU0 : Hid (ZU w wr wa H.U j nU 0 (.slice (some ⟨bu, ou, none⟩) nu ku)) := U0
      clear U0 mk4 s4 z4
      go_wp2
      go_loopg [140] nU (fun ik v140 wi => ∃ t : Nat, t + ik = nU ∧ v140 = .int .i64 t ∧ Hid (ZU w wr wi H.U j nU t (.slice (some ⟨bu, ou, none⟩) nu ku)))
      case atStart => exact ⟨0, by omega, rfl, HU0.out⟩
      case round =>
        obtain ⟨t, htk, rfl, HT⟩ := hrel
        rename World => wi
        by_cases ht : t < nU
        · have htI : (t : Int) < (nU : Int) := by omega
          have KI : Hid (ZIn wi H j nU L bp bn bv bh ba bq bi bf bl Rp Rn Rv Rh Ra Rq) := HIn.out.1.kept HT.out.kw
          have c0 := KI.out.it t ht
          have c1 := KI.out.fi t ht
          have c2 := KI.out.hi t ht
          obtain ⟨f, hf, f1, f2, f4, f5⟩ := HT.out.s
          have s4 := hf.cell (i := 4) (by omega)
          rw [f4] at s4
          have g0 := HT.out.uses.cell (i := t * 7) (by omega)
          have g1 := HT.out.uses.cell (i := t * 7 + 1) (by omega)
          have g2 := HT.out.uses.cell (i := t * 7 + 2) (by omega)
          have g3 := HT.out.uses.cell (i := t * 7 + 3) (by omega)
          have g4 := HT.out.uses.cell (i := t * 7 + 4) (by omega)
          have g5 := HT.out.uses.cell (i := t * 7 + 5) (by omega)
          have g6 := HT.out.uses.cell (i := t * 7 + 6) (by omega)
          have z0 := HT.out.uses.frozen (t * 7)
          have z1 := HT.out.uses.frozen (t * 7 + 1)
          have z2 := HT.out.uses.frozen (t * 7 + 2)
          have z3 := HT.out.uses.frozen (t * 7 + 3)
          have z4 := HT.out.uses.frozen (t * 7 + 4)
          have z5 := HT.out.uses.frozen (t * 7 + 5)
          have z6 := HT.out.uses.frozen (t * 7 + 6)
          obtain ⟨q2, rfl⟩ : ∃ q, gk = q + 1 := ⟨gk - 1, by omega⟩
          clear f1 f2 f4 f5 hf
          go_wp2
          go_still_tail 19, (by kernel_rfl)
          rw [show ({ heap := wi.heap, tape := wi.tape, drawn := wi.drawn + 1, os := wi.os, output := wi.output } : World) = wi.drew from rfl]
          go_wp2
          go_roundg q2
          case measure => omega
          case rel => exact ⟨t + 1, by omega, by go_num, (HT.out.step (by have := HZ.out.size; omega)).drew⟩
        · obtain rfl : t = nU := by omega
          have HWS : Hid (∀ (_ : Unit), _) := fun _ => ws_of HZ.out HT.out HA.out hx hnu hkU hn
          have HR0 : Hid (∀ W, Kept Nowhere wi W → W.rowIs w.heap.size 45 6 Stp.zero.cell ∧ W.rowIs (w.heap.size + 1) 45 6 Stp.zero.cell ∧ ∀ i, i < j → W.cell? ⟨w.heap.size + 5 + 2 * i, 1, none⟩ = some (.int .i64 (i : Nat))) := fun W k =>
            ⟨k.row (HT.out.kr.row HZ.out.r0 (by intro (hq : _ = _); omega)) (fun h => h), k.row (HT.out.kr.row HZ.out.r1 (by intro (hq : _ = _); omega)) (fun h => h), fun i hi => k.nothing_cell (fun _ h => h) (cell_kept HT.out.kr (HZ.out.box i hi) (by intro (hq : _ = _); omega))⟩
          have HUOK : Hid (UOK j L H.U H.lo H.hi) := HA.out.2.2.2.2.2.1
          go_upto_region 23 with (go_at_call 31; rw [← HY.out]; refine (witness31 H _ _ _ _ _ _ _ _ _ _ _ _ _ _ _ _ _ _ wi HIn.out.2 (HWS.out ())).mono ?_; rintro e w1 ⟨⟨o, rfl, HB0⟩, hk1⟩)
          have HB : Hid (BestOf H (SeenU H.lo H.hi) o) := HB0
          have HK1 : Hid (Kept Nowhere wi (w1.alloc (.cells #[.pointer (bP H (fun i => w.heap.size + 5 + 2 * i) o), .int .i64 (bS H o).pos, .int .i64 (bS H o).node, .int .i64 (bS H o).val, .bool (bS H o).hv, .int .u8 (bS H o).act, .bool (bS H o).pr, .int .i64 (bT H o).pos, .int .i64 (bT H o).node, .int .i64 (bT H o).val, .bool (bT H o).hv, .int .u8 (bT H o).act, .bool (bT H o).pr] 96))) := hk1.alloc _
          have HPB : Hid ((w1.alloc (.cells #[.pointer (bP H (fun i => w.heap.size + 5 + 2 * i) o), .int .i64 (bS H o).pos, .int .i64 (bS H o).node, .int .i64 (bS H o).val, .bool (bS H o).hv, .int .u8 (bS H o).act, .bool (bS H o).pr, .int .i64 (bT H o).pos, .int .i64 (bT H o).node, .int .i64 (bT H o).val, .bool (bT H o).hv, .int .u8 (bT H o).act, .bool (bT H o).pr] 96)).rowIs w1.heap.size 96 13 (pairC (bP H (fun i => w.heap.size + 5 + 2 * i) o) (bS H o) (bT H o))) := World.rowIs_alloc w1 _ 96 _ (fun i hi => pair_cells _ _ _ i hi)
          obtain ⟨bs, hbs⟩ : ∃ s, bS H o = s := ⟨_, rfl⟩
          obtain ⟨bt, hbt⟩ : ∃ s, bT H o = s := ⟨_, rfl⟩
          have HBS : Hid (bS H o = bs ∧ bT H o = bt) := ⟨hbs, hbt⟩
          rw [hbs, hbt] at HK1 HPB
          simp only [hbs, hbt]
          clear hk1 HB0 hbs hbt
          revert HK1 HPB
          generalize World.alloc _ _ = wz
          generalize w1.heap.size = pb
          intro HPB HK1
          have HRR : Hid (∀ W, Kept Nowhere wz W → W.rowIs w.heap.size 45 6 Stp.zero.cell ∧ W.rowIs (w.heap.size + 1) 45 6 Stp.zero.cell ∧ W.rowIs pb 96 13 (pairC (bP H (fun i => w.heap.size + 5 + 2 * i) o) bs bt)) := fun W k =>
            ⟨(HR0.out W (HK1.out.trans k)).1, (HR0.out W (HK1.out.trans k)).2.1, k.row HPB.out (fun h => h)⟩
          obtain ⟨b0, b1, b2, b3, b4, b5, b6, b7, b8, b9, b10, b11, b12⟩ := row_pair HPB.out
          have HKw : Hid (Kept Nowhere w wz) := HT.out.kw.trans HK1.out
          rcases o with _ | c
          · rw [show bP H (fun i => w.heap.size + 5 + 2 * i) none = none from rfl] at b0
            go_wp2
            go_region_with (go_at_call 32; refine (accessOf32 _ _).mono ?_; rintro e w2 ⟨rfl, hk2⟩; have HW2 : Hid (Kept Nowhere wz w2) := (by first | exact HW2.out.trans hk2 | exact HW2.out.drew.trans hk2 | exact (Kept.refl Nowhere wz).trans hk2 | exact (Kept.refl Nowhere wz).drew.trans hk2); obtain ⟨x0, x1, x2⟩ := HRR.out w2 HW2.out; obtain ⟨⟨m0, m1, m2, m3, m4, m5⟩, f0, f1, f2, f3, f4, f5⟩ := rows6 x0; obtain ⟨⟨n0, n1, n2, n3, n4, n5⟩, g0, g1, g2, g3, g4, g5⟩ := rows6 x1; obtain ⟨b0, b1, b2, b3, b4, b5, b6, b7, b8, b9, b10, b11, b12⟩ := row_pair x2; clear hk2 x0 x1 x2)
            all_goals
              have hst := store66 (HKw.out.trans HW2.out) (Nat.le_refl _) (HRR.out w2 HW2.out).1 (HRR.out w2 HW2.out).2.1 bs bt
              clear m0 m1 m2 m3 m4 m5 n0 n1 n2 n3 n4 n5 f0 f1 f2 f3 f4 f5 g0 g1 g2 g3 g4 g5 b0 b1 b2 b3 b4 b5 b6 b7 b8 b9 b10 b11 b12
              revert hst
              generalize World.setCell _ _ _ = wf
              intro hst
              have HF : Hid (Kept Nowhere w wf) := hst.1
              obtain ⟨⟨m0, m1, m2, m3, m4, m5⟩, _⟩ := rows6 hst.2.1
              obtain ⟨⟨n0, n1, n2, n3, n4, n5⟩, _⟩ := rows6 hst.2.2
              clear hst
              go_wp2
              refine bodyPost_ret (v := .tuple #[.int .i64 (-1), bs.v, bt.v]) (by simp [results, Try.results28, go_sem, m0, m1, m2, m3, m4, m5, n0, n1, n2, n3, n4, n5]) rfl ⟨⟨none, ?_, HB.out⟩, HF.out⟩
              rw [HBS.out.1, HBS.out.2]
              rfl
          · obtain ⟨k, hk⟩ : ∃ k, (H.U c.1).item.toNat = k := ⟨_, rfl⟩
            have hcr := (HB.out.2 c rfl).1
            have hu := HUOK.out c.1 hcr.1 hcr.2
            have hkj : k < j := by omega
            have HIt : Hid ((H.U c.1).item = (k : Int)) := by show _ = _; omega
            rw [show bP H (fun i => w.heap.size + 5 + 2 * i) (some c) = some ⟨w.heap.size + 5 + 2 * (H.U c.1).item.toNat, 0, none⟩ from rfl, hk] at b0
            have hbx := (HR0.out wz HK1.out).2.2 k hkj
            clear hk hu hcr
            go_wp2
            go_region_with (go_at_call 32; refine (accessOf32 _ _).mono ?_; rintro e w2 ⟨rfl, hk2⟩; have HW2 : Hid (Kept Nowhere wz w2) := (by first | exact HW2.out.trans hk2 | exact HW2.out.drew.trans hk2 | exact (Kept.refl Nowhere wz).trans hk2 | exact (Kept.refl Nowhere wz).drew.trans hk2); obtain ⟨x0, x1, x2⟩ := HRR.out w2 HW2.out; obtain ⟨⟨m0, m1, m2, m3, m4, m5⟩, f0, f1, f2, f3, f4, f5⟩ := rows6 x0; obtain ⟨⟨n0, n1, n2, n3, n4, n5⟩, g0, g1, g2, g3, g4, g5⟩ := rows6 x1; obtain ⟨b0, b1, b2, b3, b4, b5, b6, b7, b8, b9, b10, b11, b12⟩ := row_pair x2; clear hk2 x0 x1 x2)
            all_goals
              have hst := store66 (HKw.out.trans HW2.out) (Nat.le_refl _) (HRR.out w2 HW2.out).1 (HRR.out w2 HW2.out).2.1 bs bt
              clear m0 m1 m2 m3 m4 m5 n0 n1 n2 n3 n4 n5 f0 f1 f2 f3 f4 f5 g0 g1 g2 g3 g4 g5 b0 b1 b2 b3 b4 b5 b6 b7 b8 b9 b10 b11 b12
              revert hst
              generalize World.setCell _ _ _ = wf
              intro hst
              have HF : Hid (Kept Nowhere w wf) := hst.1
              obtain ⟨⟨m0, m1, m2, m3, m4, m5⟩, _⟩ := rows6 hst.2.1
              obtain ⟨⟨n0, n1, n2, n3, n4, n5⟩, _⟩ := rows6 hst.2.2
              clear hst
              go_wp2
              refine bodyPost_ret (v := .tuple #[.int .i64 (k : Int), bs.v, bt.v]) (by simp [results, Try.results28, go_sem, m0, m1, m2, m3, m4, m5, n0, n1, n2, n3, n4, n5]) rfl ⟨⟨some c, ?_, HB.out⟩, HF.out⟩
              rw [HBS.out.1, HBS.out.2]
              rw [show itemOf H (some c) = (H.U c.1).item from rfl, HIt.out]
end Go.Proofs.Qxb6604039a
