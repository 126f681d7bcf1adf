/-
  zzCloneUses, zzCloneLogs.
-/
import Derived.Test.Qxb6604039aWitLeaf
import Derived.Test.Qxb6604039aLawMem
namespace Go.Proofs.Qxb6604039a
open Go.RowKit

/-- make, elements of any number of cells -/
theorem run_make_wide {P : Program} (t e : TypeId) (z : Value) (size bytes : Nat) (ht : P.underlying t = some (.slice e)) (hinfo : (P.info? e).map (fun i => (i.zero, i.size, i.bytes)) = some (some z, size, bytes))
    (kl kc : IntKind) (n : Nat) (hbytes : bytes * n ≤ 281474976710656) (h63 : n ≤ 9223372036854775807) (w : World) :
    (Instr.makeSlice t (.int kl (n : Int)) (.int kc (n : Int))).run P w = .ok (.slice (some ⟨w.heap.size, 0, none⟩) n n) (w.alloc (.cells (madeCells z.cells (n * size)) e)) := by
  obtain ⟨i, hi, hzz⟩ := Option.map_eq_some_iff.1 hinfo
  simp only [Prod.mk.injEq] at hzz
  obtain ⟨hz, hs, hb⟩ := hzz
  have hb' : (i.bytes : Int) * (n : Int) ≤ 281474976710656 := by
    have h : ((i.bytes * n : Nat) : Int) ≤ 281474976710656 := by rw [hb]; omega
    rwa [Int.natCast_mul] at h
  have hr := run_make (P := P) w t e i z ht hi hz kl kc n n (by omega) (Int.le_refl _) hb' (by omega)
  simp only [Int.toNat_natCast, hs] at hr
  exact hr

theorem rowIs_wide (w : World) (c : Array Value) (m : Nat) (t : TypeId) (f : Nat → Value) (h : ∀ i, c[i % c.size]! = f i) : (w.alloc (.cells (madeCells c m) t)).rowIs w.heap.size t m f :=
  ⟨_, Deep.blk_alloc_new _ _, size_madeCells _ _, fun i hi => by
    have := h i
    simp [madeCells, hi]
    exact this⟩

/-- a use: the three fields that witness reads -/
structure Us where
  item : Int
  first : Int
  hi : Int
@[reducible] def Us.v (s : Us) : Value := .agg #[.int .i64 s.item, .int .i64 s.first, .int .i64 s.hi]
def Us.cell (s : Us) (f : Nat) : Value := if f = 0 then .int .i64 s.item else if f = 1 then .int .i64 s.first else .int .i64 s.hi

def UsesAt (w : World) (a : Option Addr) (n : Nat) (U : Nat → Us) : Prop :=
  n ≠ 0 → ∃ b o, a = some ⟨b, o, none⟩ ∧ ∀ j, j < n → w.cell? ⟨b, o + j * 3, none⟩ = some (.int .i64 (U j).item) ∧ w.cell? ⟨b, o + j * 3 + 1, none⟩ = some (.int .i64 (U j).first) ∧ w.cell? ⟨b, o + j * 3 + 2, none⟩ = some (.int .i64 (U j).hi)

theorem UsesAt.kept {w w' : World} {a : Option Addr} {n : Nat} {S : Nat → Us} (h : UsesAt w a n S) (k : Kept Nowhere w w') : UsesAt w' a n S := by
  intro hx
  obtain ⟨b, o, ha, hc⟩ := h hx
  refine ⟨b, o, ha, fun j hj => ?_⟩
  obtain ⟨h0, h1, h2⟩ := hc j hj
  exact ⟨k.nothing_cell (fun _ h => h) h0, k.nothing_cell (fun _ h => h) h1, k.nothing_cell (fun _ h => h) h2⟩

theorem Try.info37 : (Try.prog.info? 37).map (fun i => (i.zero, i.size, i.bytes)) = some (some (.agg #[.int .i64 0, .int .i64 0, .int .i64 0]), 3, 24) := by kernel_rfl
theorem Try.info43 : (Try.prog.info? 43).map (fun i => (i.zero, i.size, i.bytes)) = some (some (.agg #[.int .i64 0, .int .i64 0, .int .i64 0, .bool false, .int .u8 0, .bool false]), 6, 32) := by kernel_rfl

theorem zero3 (i : Nat) : (#[.int .i64 0, .int .i64 0, .int .i64 0] : Array Value)[i % 3]! = .int .i64 0 := by
  have h : i % 3 = 0 ∨ i % 3 = 1 ∨ i % 3 = 2 := by omega
  rcases h with h | h | h <;> rw [h] <;> rfl

theorem use_set (U : Nat → Us) (j i : Nat) : (if i = j * 3 + 2 then Value.int .i64 (U j).hi else if i = j * 3 + 1 then .int .i64 (U j).first else if i = j * 3 then .int .i64 (U j).item else if i / 3 < j then (U (i / 3)).cell (i % 3) else .int .i64 0) = if i / 3 < j + 1 then (U (i / 3)).cell (i % 3) else .int .i64 0 := by
  by_cases h : i / 3 = j
  · subst h
    have h3 : i % 3 = 0 ∨ i % 3 = 1 ∨ i % 3 = 2 := by omega
    rw [if_pos (show i / 3 < i / 3 + 1 by omega)]
    rcases h3 with h | h | h
    · rw [if_neg (by omega), if_neg (by omega), if_pos (by omega), h]; rfl
    · rw [if_neg (by omega), if_pos (by omega), h]; rfl
    · rw [if_pos (by omega), h]; rfl
  · rw [if_neg (by omega), if_neg (by omega), if_neg (by omega)]
    by_cases h2 : i / 3 < j
    · rw [if_pos h2, if_pos (by omega)]
    · rw [if_neg h2, if_neg (by omega)]

theorem Try.info34 : (Try.prog.info? 34).map (fun i => (i.zero, i.size, i.bytes)) = some (some (.slice none 0 0), 1, 24) := by kernel_rfl

def ClonedU (a : Option Addr) (n : Nat) (U : Nat → Us) (v : Value) (w w' : World) : Prop :=
  Kept Nowhere w w' ∧ ((a = none ∧ v = .slice none 0 0) ∨ (a ≠ none ∧ ∃ g, w.heap.size ≤ g ∧ v = .slice (some ⟨g, 0, none⟩) n n ∧ w'.rowIs g 37 (n * 3) (fun i => (U (i / 3)).cell (i % 3))))

set_option maxRecDepth 100000 in
set_option maxHeartbeats 400000 in
theorem cloneUses_some (ad : Addr) (k : Nat) (n : Nat) (U : Nat → Us) (w : World) (h : UsesAt w (some ad) n U) (hb : n ≤ 1048576) :
    Calls Try.prog 15 #[.slice (some ad) n k] w fun e w' => ∃ v, e = .returned v ∧ ClonedU (some ad) n U v w w' := by
  have he := fun W => Lib.run_eql_slice_nil (P := Try.prog) W 32 37 (some ad) n k 0 0 Try.underlying32
  have hmk := run_make_wide (P := Try.prog) 32 37 _ 3 24 Try.underlying32 Try.info37 .i64 .i64 n (by omega) (by omega)
  have HX : Hid (UsesAt w (some ad) n U) := h
  clear h
  go_enter Try.func15, Try.ntmps15
  go_wp2
  go_loopg [4] n (fun gk i wr => ∃ j : Nat, j + gk = n ∧ i = .int .i64 j ∧ Hid (wr.rowIs w.heap.size 37 (n * 3) (fun t => if t / 3 < j then (U (t / 3)).cell (t % 3) else .int .i64 0) ∧ Kept Nowhere w wr))
  case atStart => exact ⟨0, by omega, rfl, (rowIs_wide w #[.int .i64 0, .int .i64 0, .int .i64 0] (n * 3) 37 (fun _ => .int .i64 0) zero3).congr (fun i _ => by simp), (Kept.refl _ _).alloc _⟩
  case round =>
    obtain ⟨j, hjk, rfl, HR⟩ := hrel
    by_cases hj : j < n
    · obtain ⟨b, o, hb', hc⟩ := HX.out (by omega)
      simp only [Option.some.injEq] at hb'
      subst hb'
      obtain ⟨c0, c1, c2⟩ := ((HX.out).kept HR.out.2 (by omega)).elim fun b' h => h.elim fun o' h => by
        obtain ⟨e, h⟩ := h
        simp only [Option.some.injEq, Addr.mk.injEq, and_true] at e
        obtain ⟨rfl, rfl⟩ := e
        exact h j hj
      have g0 := HR.out.1.cell (i := j * 3) (by omega)
      have g1 := HR.out.1.cell (i := j * 3 + 1) (by omega)
      have g2 := HR.out.1.cell (i := j * 3 + 2) (by omega)
      have z0 := HR.out.1.frozen (j * 3)
      have z1 := HR.out.1.frozen (j * 3 + 1)
      have z2 := HR.out.1.frozen (j * 3 + 2)
      obtain ⟨q, rfl⟩ : ∃ q, gk = q + 1 := ⟨gk - 1, by omega⟩
      clear hc
      go_wp2
      go_roundg q
      case measure => omega
      case rel =>
        refine ⟨j + 1, by omega, by go_num, (((HR.out.1.set _ _).set _ _).set _ _).congr (fun i hi => use_set U j i), ?_⟩
        exact ((HR.out.2.setCell (.inr (Nat.le_refl _)) _).setCell (.inr (Nat.le_refl _)) _).setCell (.inr (Nat.le_refl _)) _
    · go_wp2
      go_ret
      refine ⟨_, rfl, HR.out.2, .inr ⟨by simp, w.heap.size, Nat.le_refl _, rfl, HR.out.1.congr (fun i hi => ?_)⟩⟩
      rw [if_pos (by omega)]

set_option maxRecDepth 100000 in
set_option maxHeartbeats 400000 in
theorem cloneUses_none (n k : Nat) (U : Nat → Us) (w : World) :
    Calls Try.prog 15 #[.slice none n k] w fun e w' => ∃ v, e = .returned v ∧ ClonedU none n U v w w' := by
  have he := fun W => Lib.run_eql_slice_nil (P := Try.prog) W 32 37 none n k 0 0 Try.underlying32
  go_enter Try.func15, Try.ntmps15
  go_wp2
  go_ret
  exact ⟨_, rfl, Kept.refl _ _, .inl ⟨rfl, rfl⟩⟩

theorem cloneUses (a : Option Addr) (k : Nat) (n : Nat) (U : Nat → Us) (w : World) (h : UsesAt w a n U) (hb : n ≤ 1048576) :
    Calls Try.prog 15 #[.slice a n k] w fun e w' => ∃ v, e = .returned v ∧ ClonedU a n U v w w' := by
  cases a with
  | none => exact cloneUses_none n k U w
  | some ad => exact cloneUses_some ad k n U w h hb

theorem ClonedU.usesAt {a : Option Addr} {n : Nat} {U : Nat → Us} {v : Value} {w w' : World} (h : ClonedU a n U v w w') (ha : n ≠ 0 → a ≠ none) : ∃ a' k', v = .slice a' n k' ∧ UsesAt w' a' n U := by
  rcases h.2 with ⟨h0, rfl⟩ | ⟨h0, g, hg, rfl, hr⟩
  · have : n = 0 := Classical.byContradiction fun h => ha h h0
    subst this
    exact ⟨_, _, rfl, fun h => absurd rfl h⟩
  · refine ⟨_, _, rfl, fun _ => ⟨g, 0, rfl, fun j hj => ?_⟩⟩
    have q : ∀ f, f < 3 → (j * 3 + f) / 3 = j ∧ (j * 3 + f) % 3 = f := fun f hf => by omega
    have c0 := hr.cell (i := j * 3 + 0) (by omega)
    have c1 := hr.cell (i := j * 3 + 1) (by omega)
    have c2 := hr.cell (i := j * 3 + 2) (by omega)
    rw [(q 0 (by omega)).1, (q 0 (by omega)).2] at c0
    rw [(q 1 (by omega)).1, (q 1 (by omega)).2] at c1
    rw [(q 2 (by omega)).1, (q 2 (by omega)).2] at c2
    rw [Nat.zero_add]
    exact ⟨c0, c1, c2⟩

def Stp.cell (s : Stp) (f : Nat) : Value := if f = 0 then .int .i64 s.pos else if f = 1 then .int .i64 s.node else if f = 2 then .int .i64 s.val else if f = 3 then .bool s.hv else if f = 4 then .int .u8 s.act else .bool s.pr
def Stp.zero : Stp := ⟨0, 0, 0, false, 0, false⟩

theorem zero6 (i : Nat) : (#[.int .i64 0, .int .i64 0, .int .i64 0, .bool false, .int .u8 0, .bool false] : Array Value)[i % 6]! = Stp.zero.cell (i % 6) := by
  have h : i % 6 = 0 ∨ i % 6 = 1 ∨ i % 6 = 2 ∨ i % 6 = 3 ∨ i % 6 = 4 ∨ i % 6 = 5 := by omega
  rcases h with h | h | h | h | h | h <;> rw [h] <;> rfl

theorem step_set (S : Nat → Stp) (j i : Nat) : (if i = j * 6 + 5 then Value.bool (S j).pr else if i = j * 6 + 4 then .int .u8 (S j).act else if i = j * 6 + 3 then .bool (S j).hv else if i = j * 6 + 2 then .int .i64 (S j).val else if i = j * 6 + 1 then .int .i64 (S j).node else if i = j * 6 then .int .i64 (S j).pos else if i / 6 < j then (S (i / 6)).cell (i % 6) else Stp.zero.cell (i % 6)) = if i / 6 < j + 1 then (S (i / 6)).cell (i % 6) else Stp.zero.cell (i % 6) := by
  by_cases h : i / 6 = j
  · subst h
    have h3 : i % 6 = 0 ∨ i % 6 = 1 ∨ i % 6 = 2 ∨ i % 6 = 3 ∨ i % 6 = 4 ∨ i % 6 = 5 := by omega
    rw [if_pos (show i / 6 < i / 6 + 1 by omega)]
    rcases h3 with h | h | h | h | h | h
    · rw [if_neg (by omega), if_neg (by omega), if_neg (by omega), if_neg (by omega), if_neg (by omega), if_pos (by omega), h]; rfl
    · rw [if_neg (by omega), if_neg (by omega), if_neg (by omega), if_neg (by omega), if_pos (by omega), h]; rfl
    · rw [if_neg (by omega), if_neg (by omega), if_neg (by omega), if_pos (by omega), h]; rfl
    · rw [if_neg (by omega), if_neg (by omega), if_pos (by omega), h]; rfl
    · rw [if_neg (by omega), if_pos (by omega), h]; rfl
    · rw [if_pos (by omega), h]; rfl
  · rw [if_neg (by omega), if_neg (by omega), if_neg (by omega), if_neg (by omega), if_neg (by omega), if_neg (by omega)]
    by_cases h2 : i / 6 < j
    · rw [if_pos h2, if_pos (by omega)]
    · rw [if_neg h2, if_neg (by omega)]

/-- steps in a block of their own read as a slice of steps -/
theorem StepsAt.of_row {w : World} {g n : Nat} {t : TypeId} {S : Nat → Stp} (hr : w.rowIs g t (n * 6) (fun i => (S (i / 6)).cell (i % 6))) : StepsAt w (some ⟨g, 0, none⟩) n S := by
  intro _
  refine ⟨g, 0, rfl, fun j hj => ?_⟩
  have q : ∀ f, f < 6 → (j * 6 + f) / 6 = j ∧ (j * 6 + f) % 6 = f := fun f hf => by omega
  have c : ∀ f, f < 6 → w.cell? ⟨g, j * 6 + f, none⟩ = some ((S j).cell f) := fun f hf => by
    have := hr.cell (i := j * 6 + f) (by omega)
    rwa [(q f hf).1, (q f hf).2] at this
  rw [Nat.zero_add]
  exact ⟨c 0 (by omega), c 1 (by omega), c 2 (by omega), c 3 (by omega), c 4 (by omega), c 5 (by omega)⟩

/-- a row of steps, its cells in a block from N on -/
def RowS (t : TypeId) (N : Nat) (w : World) (v : Value) (n : Nat) (S : Nat → Stp) : Prop :=
  ∃ a k, v = .slice a n k ∧ (n ≠ 0 → ∃ g, a = some ⟨g, 0, none⟩ ∧ N ≤ g ∧ w.rowIs g t (n * 6) (fun i => (S (i / 6)).cell (i % 6)))

theorem RowS.kept {t : TypeId} {S : Nat → Prop} {N : Nat} {w w' : World} {v : Value} {n : Nat} {f : Nat → Stp} (h : RowS t N w v n f) (k : Kept S w w') (hS : ∀ i, S i → i < N) : RowS t N w' v n f := by
  obtain ⟨a, c, hv, hc⟩ := h
  refine ⟨a, c, hv, fun hn => ?_⟩
  obtain ⟨g, ha, hg, hr⟩ := hc hn
  exact ⟨g, ha, hg, k.row hr (fun s => by have := hS _ s; omega)⟩

theorem logs_of_rows {t : TypeId} {N g n : Nat} {w : World} {R : Nat → Value} {e : TypeId} {L : Nat → Nat} {X : Nat → Nat → Stp} (h : w.rowIs g e n R) (hr : ∀ i, i < n → RowS t N w (R i) (L i) (X i)) : LogsAt w (some ⟨g, 0, none⟩) n (fun i => sAddr (R i)) L (fun i => sCap (R i)) X := by
  have e1 : ∀ i, i < n → R i = .slice (sAddr (R i)) (L i) (sCap (R i)) := fun i hi => by obtain ⟨a, k, h, _⟩ := hr i hi; rw [h]; rfl
  refine ⟨fun _ => ⟨g, 0, rfl, fun i hi => ?_⟩, fun i hi => ?_⟩
  · rw [Nat.zero_add, ← e1 i hi]; exact h.cell hi
  · obtain ⟨a, k, hv, hc⟩ := hr i hi
    show StepsAt w (sAddr (R i)) (L i) (X i)
    rw [hv]
    intro hn
    obtain ⟨g', rfl, _, hrow⟩ := hc hn
    exact StepsAt.of_row hrow hn

set_option maxRecDepth 100000 in
set_option maxHeartbeats 1000000 in
theorem cloneLogs_some (ad : Addr) (k n : Nat) (A : Nat → Option Addr) (L C : Nat → Nat) (X : Nat → Nat → Stp) (w : World) (h : LogsAt w (some ad) n A L C X) (hb : n ≤ 1048576) (hL : ∀ i, i < n → L i ≤ 1048576) :
    Calls Try.prog 14 #[.slice (some ad) n k] w fun e w' => e = .returned (.slice (some ⟨w.heap.size, 0, none⟩) n n) ∧ Kept Nowhere w w' ∧ ∃ R, w'.rowIs w.heap.size 34 n R ∧ ∀ i, i < n → RowS 43 (w.heap.size + 1) w' (R i) (L i) (X i) := by
  have he := fun W => Lib.run_eql_slice_nil (P := Try.prog) W 31 34 (some ad) n k 0 0 Try.underlying31
  have hmk := run_make_row' (P := Try.prog) 31 34 (.slice none 0 0) 24 Try.underlying31 Try.info34 rfl .i64 .i64 n (by omega) (by omega)
  have HX : Hid (LogsAt w (some ad) n A L C X ∧ ∀ i, i < n → L i ≤ 1048576) := ⟨h, hL⟩
  clear h hL
  go_enter Try.func14, Try.ntmps14
  go_wp2
  go_loopg [4] n (fun gk i wr => ∃ j : Nat, j + gk = n ∧ i = .int .i64 j ∧ Hid (Kept Nowhere w wr ∧ w.heap.size + 1 ≤ wr.heap.size ∧ ∃ R : Nat → Value, wr.rowIs w.heap.size 34 n (fun t => if t < j then R t else .slice none 0 0) ∧ ∀ i, i < j → RowS 43 (w.heap.size + 1) wr (R i) (L i) (X i)))
  case atStart => exact ⟨0, by omega, rfl, (Kept.refl _ _).alloc _, by simp, fun _ => .slice none 0 0, (World.rowIs_made w (.slice none 0 0) n 34).congr (fun i _ => by simp), fun i hi => by omega⟩
  case round =>
    obtain ⟨j, hjk, rfl, HR⟩ := hrel
    by_cases hj : j < n
    · obtain ⟨b, o, hb', hc⟩ := HX.out.1.1 (by omega)
      simp only [Option.some.injEq] at hb'
      subst hb'
      have hcj := hc j hj
      have hjI : (j : Int) < (n : Int) := by omega
      have hLj := HX.out.2 j hj
      obtain ⟨aj, ha⟩ : ∃ a, A j = a := ⟨_, rfl⟩
      obtain ⟨l, hl⟩ : ∃ l, L j = l := ⟨_, rfl⟩
      obtain ⟨kj, hk⟩ : ∃ k, C j = k := ⟨_, rfl⟩
      have hrow := HX.out.1.2 j hj
      rw [ha, hl] at hrow
      rw [ha, hl, hk] at hcj
      rw [hl] at hLj
      have HL : Hid (L j = l) := hl
      have HRow : Hid (StepsAt w aj l (X j)) := hrow
      have HC : Hid (w.cell? ⟨b, o + j, none⟩ = some (.slice aj l kj)) := hcj
      obtain ⟨q, rfl⟩ : ∃ q, gk = q + 1 := ⟨gk - 1, by omega⟩
      have hcr : wr.cell? ⟨b, o + j, none⟩ = some (.slice aj l kj) := HR.out.1.nothing_cell (fun _ h => h) hcj
      clear ha hl hk hrow hc hcj
      have he2 := fun W => Lib.run_eql_slice_nil (P := Try.prog) W 34 43 aj l kj 0 0 Try.underlying34
      cases aj with
      | none =>
        go_wp2
        go_roundg q
        case measure => omega
        case rel =>
          obtain ⟨R, hR, hRn⟩ := HR.out.2.2
          have hl0 : l = 0 := Classical.byContradiction fun h => by obtain ⟨_, _, h, _⟩ := HRow.out h; cases h
          refine ⟨j + 1, by omega, by go_num, HR.out.1, HR.out.2.1, fun t => if t = j then .slice none 0 0 else R t, hR.congr (fun i hi => ?_), fun i hi => ?_⟩
          · by_cases e : i = j
            · subst e; simp
            · simp only [if_neg e]; by_cases h1 : i < j
              · rw [if_pos h1, if_pos (by omega)]
              · rw [if_neg h1, if_neg (by omega)]
          · by_cases e : i = j
            · subst e
              simp only [if_true]
              exact ⟨none, 0, by rw [HL.out, hl0], fun h => by rw [HL.out, hl0] at h; exact absurd rfl h⟩
            · simp only [if_neg e]; exact hRn i (by omega)
      | some ad2 =>
        have hmk2 := run_make_wide (P := Try.prog) 34 43 _ 6 32 Try.underlying34 Try.info43 .i64 .i64 l (by omega) (by omega)
        go_wp2
        go_loopg [6] l (fun ik i wi => ∃ t : Nat, t + ik = l ∧ i = .int .i64 t ∧ Hid (wi.rowIs wr.heap.size 43 (l * 6) (fun i => if i / 6 < t then (X j (i / 6)).cell (i % 6) else Stp.zero.cell (i % 6)) ∧ Kept Nowhere wr wi))
        case atStart => exact ⟨0, by omega, rfl, (rowIs_wide wr #[.int .i64 0, .int .i64 0, .int .i64 0, .bool false, .int .u8 0, .bool false] (l * 6) 43 (fun i => Stp.zero.cell (i % 6)) zero6).congr (fun i _ => by simp), (Kept.refl _ _).alloc _⟩
        case round =>
          obtain ⟨t, htk, rfl, HT⟩ := hrel
          rename World => wi
          have KI : Hid (Kept Nowhere w wi) := HR.out.1.trans HT.out.2
          have hci : wi.cell? ⟨b, o + j, none⟩ = some (.slice (some ad2) l kj) := KI.out.nothing_cell (fun _ h => h) HC.out
          by_cases ht : t < l
          · obtain ⟨b2, o2, had, hc2⟩ := (HRow.out.kept KI.out) (by omega)
            simp only [Option.some.injEq] at had
            subst had
            obtain ⟨c0, c1, c2, c3, c4, c5⟩ := hc2 t ht
            have htI : (t : Int) < (l : Int) := by omega
            obtain ⟨q2, rfl⟩ : ∃ q, gk = q + 1 := ⟨gk - 1, by omega⟩
            have g0 := HT.out.1.cell (i := t * 6) (by omega)
            have g1 := HT.out.1.cell (i := t * 6 + 1) (by omega)
            have g2 := HT.out.1.cell (i := t * 6 + 2) (by omega)
            have g3 := HT.out.1.cell (i := t * 6 + 3) (by omega)
            have g4 := HT.out.1.cell (i := t * 6 + 4) (by omega)
            have g5 := HT.out.1.cell (i := t * 6 + 5) (by omega)
            have z0 := HT.out.1.frozen (t * 6)
            have z1 := HT.out.1.frozen (t * 6 + 1)
            have z2 := HT.out.1.frozen (t * 6 + 2)
            have z3 := HT.out.1.frozen (t * 6 + 3)
            have z4 := HT.out.1.frozen (t * 6 + 4)
            have z5 := HT.out.1.frozen (t * 6 + 5)
            clear hc2 he he2 hmk hmk2
            go_wp2
            go_roundg q2
            case measure => omega
            case rel =>
              refine ⟨t + 1, by omega, by go_num, ((((((HT.out.1.set _ _).set _ _).set _ _).set _ _).set _ _).set _ _).congr (fun i hi => step_set (X j) t i), ?_⟩
              exact (((((HT.out.2.setCell (.inr (Nat.le_refl _)) _).setCell (.inr (Nat.le_refl _)) _).setCell (.inr (Nat.le_refl _)) _).setCell (.inr (Nat.le_refl _)) _).setCell (.inr (Nat.le_refl _)) _).setCell (.inr (Nat.le_refl _)) _
          · obtain ⟨R, hR, hRn⟩ := HR.out.2.2
            have hR1 := HT.out.2.row hR (fun h => h)
            have g1 := hR1.cell hj
            have z1 := hR1.frozen j
            have HRn : Hid (∀ i, i < j → RowS 43 (w.heap.size + 1) wr (R i) (L i) (X i)) := hRn
            clear hRn he he2 hmk hmk2
            go_wp2
            go_roundg q
            case measure => omega
            case rel =>
              have hsz := HR.out.2.1
              have hs1 := HT.out.2.size
              obtain rfl : t = l := by omega
              have kS : Kept (fun k => k = w.heap.size) wi (wi.setCell ⟨w.heap.size, j, none⟩ (.slice (some ⟨wr.heap.size, 0, none⟩) t t)) := (Kept.refl (fun k => k = w.heap.size) wi).setCell (a := ⟨w.heap.size, j, none⟩) (.inl rfl) _
              refine ⟨j + 1, by omega, by go_num, KI.out.setCell (.inr (Nat.le_refl _)) _, by rw [Deep.nblk_setCell]; omega, fun u => if u = j then .slice (some ⟨wr.heap.size, 0, none⟩) t t else R u, (hR1.set j _).congr (fun i hi => ?_), fun i hi => ?_⟩
              · by_cases e : i = j
                · subst e; simp
                · simp only [if_neg e]; by_cases h1 : i < j
                  · rw [if_pos h1, if_pos (by omega)]
                  · rw [if_neg h1, if_neg (by omega)]
              · by_cases e : i = j
                · subst e
                  simp only [if_true]
                  refine RowS.kept (S := fun k => k = w.heap.size) ?_ kS (fun i hi => by omega)
                  rw [HL.out]
                  exact ⟨_, _, rfl, fun hn => ⟨_, rfl, by omega, HT.out.1.congr (fun i hi => by rw [if_pos (by omega)])⟩⟩
                · simp only [if_neg e]
                  exact ((HRn.out i (by omega)).kept HT.out.2 (fun _ h => h.elim)).kept kS (fun i hi => by omega)
    · go_wp2
      go_ret
      obtain ⟨R, hR, hRn⟩ := HR.out.2.2
      exact ⟨rfl, HR.out.1, R, hR.congr (fun i hi => by rw [if_pos (by omega)]), fun i hi => hRn i (by omega)⟩

set_option maxRecDepth 100000 in
set_option maxHeartbeats 400000 in
theorem cloneLogs_none (n k : Nat) (w : World) : Calls Try.prog 14 #[.slice none n k] w fun e w' => e = .returned (.slice none 0 0) ∧ w' = w := by
  have he := fun W => Lib.run_eql_slice_nil (P := Try.prog) W 31 34 none n k 0 0 Try.underlying31
  go_enter Try.func14, Try.ntmps14
  go_wp2
  go_ret
  exact ⟨rfl, rfl⟩

theorem cloneLogs (a : Option Addr) (k n : Nat) (A : Nat → Option Addr) (L C : Nat → Nat) (X : Nat → Nat → Stp) (w : World) (h : LogsAt w a n A L C X) (hn : a = none → n = 0) (hb : n ≤ 1048576) (hL : ∀ i, i < n → L i ≤ 1048576) :
    Calls Try.prog 14 #[.slice a n k] w fun e w' => ∃ a' k' A' C', e = .returned (.slice a' n k') ∧ Kept Nowhere w w' ∧ LogsAt w' a' n A' L C' X := by
  cases a with
  | none =>
    obtain rfl := hn rfl
    refine (cloneLogs_none 0 k w).mono ?_
    rintro e w' ⟨rfl, rfl⟩
    exact ⟨none, 0, A, C, rfl, Kept.refl _ _, h⟩
  | some ad =>
    refine (cloneLogs_some ad k n A L C X w h hb hL).mono ?_
    rintro e w' ⟨rfl, hk, R, hR, hRn⟩
    exact ⟨_, _, _, _, rfl, hk, logs_of_rows hR hRn⟩
end Go.Proofs.Qxb6604039a
