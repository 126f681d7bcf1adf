/-
  The small functions: zzNext, zzSameInts, zzCloneInts, zzCloneGraph.
-/
import Derived.Test.Qxb6604039aReachMem
import Derived.WalkSpells
import Derived.WalkLawsBesides
import Derived.Deep.QuietTactic
import Derived.BigQuiet
import Derived.Deep.RegionWith
import Derived.RegionTactic
import Derived.BigRegion
import Derived.Lib.SliceRun
namespace Go.Proofs.Qxb6604039a
open Go.RowKit

/-- a slice of integers that is only read -/
def IntsAt (w : World) (a : Option Addr) (n : Nat) (f : Nat → Int) : Prop :=
  n ≠ 0 → ∃ b o, a = some ⟨b, o, none⟩ ∧ ∀ j, j < n → w.cell? ⟨b, o + j, none⟩ = some (.int .i64 (f j))

theorem Try.info24 : (Try.prog.info? 24).map (fun i => (i.zero, i.size, i.bytes)) = some (some (.slice none 0 0), 1, 24) := by kernel_rfl


theorem IntsAt.kept {w w' : World} {a : Option Addr} {n : Nat} {f : Nat → Int} (h : IntsAt w a n f) (k : Kept Nowhere w w') : IntsAt w' a n f := by
  intro hx
  obtain ⟨b, o, ha, hc⟩ := h hx
  exact ⟨b, o, ha, fun j hj => k.nothing_cell (fun _ h => h) (hc j hj)⟩

/-- what a clone of a slice of integers is -/
def Cloned (a : Option Addr) (n : Nat) (f : Nat → Int) (v : Value) (w w' : World) : Prop :=
  Kept Nowhere w w' ∧ ((a = none ∧ v = .slice none 0 0) ∨ (a ≠ none ∧ ∃ g, w.heap.size ≤ g ∧ v = .slice (some ⟨g, 0, none⟩) n n ∧ w'.rowIs g 3 n (fun i => .int .i64 (f i))))

set_option maxRecDepth 100000 in
set_option maxHeartbeats 400000 in
theorem cloneInts_some (ad : Addr) (k : Nat) (n : Nat) (f : Nat → Int) (w : World) (h : IntsAt w (some ad) n f) (hb : n ≤ 1048576) :
    Calls Try.prog 16 #[.slice (some ad) n k] w fun e w' => ∃ v, e = .returned v ∧ Cloned (some ad) n f v w w' := by
  have he := fun W => Lib.run_eql_slice_nil (P := Try.prog) W 24 3 (some ad) n k 0 0 Try.underlying24
  have hmk := run_make_row' (P := Try.prog) 24 3 (.int .i64 0) 8 Try.underlying24 Try.info3 rfl .i64 .i64 n (by omega) (by omega)
  have HX : Hid (IntsAt w (some ad) n f) := h
  clear h
  go_enter Try.func16, Try.ntmps16
  go_wp2
  go_loopg [4] n (fun gk i wr => ∃ j : Nat, j + gk = n ∧ i = .int .i64 j ∧ Hid (wr.rowIs w.heap.size 3 n (fun t => .int .i64 (if t < j then f t else 0)) ∧ Kept Nowhere w wr))
  case atStart => exact ⟨0, by omega, rfl, (World.rowIs_made w (.int .i64 0) n 3).congr (fun i _ => by simp), (Kept.refl _ _).alloc _⟩
  case round =>
    obtain ⟨j, hjk, rfl, HR⟩ := hrel
    by_cases hj : j < n
    · obtain ⟨b, o, hb', hc⟩ := HX.out (by omega)
      simp only [Option.some.injEq] at hb'
      subst hb'
      have hc' : wr.cell? ⟨b, o + j, none⟩ = some (.int .i64 (f j)) := HR.out.2.nothing_cell (fun _ h => h) (hc j hj)
      have HG : Hid (∀ j, j < n → w.cell? ⟨b, o + j, none⟩ = some (.int .i64 (f j))) := hc
      have hg := HR.out.1.cell hj
      have hz := HR.out.1.frozen j
      obtain ⟨q, rfl⟩ : ∃ q, gk = q + 1 := ⟨gk - 1, by omega⟩
      clear hc
      go_wp2
      go_roundg q
      case measure => omega
      case rel =>
        refine ⟨j + 1, by omega, by go_num, (HR.out.1.set j _).congr (fun i hi => ?_), HR.out.2.setCell (.inr (Nat.le_refl _)) _⟩
        by_cases e : i = j
        · subst e; simp
        · rw [if_neg e]; congr 1; by_cases h1 : i < j
          · rw [if_pos h1, if_pos (by omega)]
          · rw [if_neg h1, if_neg (by omega)]
    · go_wp2
      go_ret
      refine ⟨_, rfl, HR.out.2, .inr ⟨by simp, w.heap.size, Nat.le_refl _, rfl, HR.out.1.congr (fun i hi => ?_)⟩⟩
      rw [if_pos (by omega)]

set_option maxRecDepth 100000 in
set_option maxHeartbeats 400000 in
theorem cloneInts_none (n k : Nat) (f : Nat → Int) (w : World) :
    Calls Try.prog 16 #[.slice none n k] w fun e w' => ∃ v, e = .returned v ∧ Cloned none n f v w w' := by
  have he := fun W => Lib.run_eql_slice_nil (P := Try.prog) W 24 3 none n k 0 0 Try.underlying24
  go_enter Try.func16, Try.ntmps16
  go_wp2
  go_ret
  exact ⟨_, rfl, Kept.refl _ _, .inl ⟨rfl, rfl⟩⟩

theorem cloneInts (a : Option Addr) (k : Nat) (n : Nat) (f : Nat → Int) (w : World) (h : IntsAt w a n f) (hb : n ≤ 1048576) :
    Calls Try.prog 16 #[.slice a n k] w fun e w' => ∃ v, e = .returned v ∧ Cloned a n f v w w' := by
  cases a with
  | none => exact cloneInts_none n k f w
  | some ad => exact cloneInts_some ad k n f w h hb

set_option maxHeartbeats 400000 in
/-- zzNext -/
theorem next_fwd (b o n k : Nat) (pv : Value) (i : Nat) (v : Value) (w : World) (hi : i < n) (hv : ∃ a l c, v = .slice a l c) (hc : w.cell? ⟨b, o + i, none⟩ = some v) :
    Calls Try.prog 22 #[.slice (some ⟨b, o, none⟩) n k, pv, .int .i64 (i : Nat), .bool true] w fun e w' => e = .returned v ∧ w' = w := by
  have hiI : (i : Int) < (n : Int) := by omega
  obtain ⟨a, l, c, rfl⟩ := hv
  go_enter Try.func22, Try.ntmps22
  go_wp2
  go_ret
  exact ⟨rfl, rfl⟩

set_option maxHeartbeats 400000 in
theorem next_bwd (b o n k : Nat) (sv : Value) (i : Nat) (v : Value) (w : World) (hi : i < n) (hv : ∃ a l c, v = .slice a l c) (hc : w.cell? ⟨b, o + i, none⟩ = some v) :
    Calls Try.prog 22 #[sv, .slice (some ⟨b, o, none⟩) n k, .int .i64 (i : Nat), .bool false] w fun e w' => e = .returned v ∧ w' = w := by
  have hiI : (i : Int) < (n : Int) := by omega
  obtain ⟨a, l, c, rfl⟩ := hv
  go_enter Try.func22, Try.ntmps22
  go_wp2
  go_ret
  exact ⟨rfl, rfl⟩

set_option maxRecDepth 100000 in
set_option maxHeartbeats 400000 in
/-- zzSameInts of two slices that read alike -/
theorem sameInts (a b : Option Addr) (n ka kb : Nat) (f g : Nat → Int) (w : World) (hab : a.isNone = b.isNone) (ha : IntsAt w a n f) (hb : IntsAt w b n g) (hfg : ∀ i, i < n → f i = g i) (hl : n ≤ 1048576) :
    Calls Try.prog 24 #[.slice a n ka, .slice b n kb] w fun e w' => e = .returned (.bool true) ∧ ∃ q, w' = w.drewN q := by
  have he := fun W => Lib.run_eql_slice_nil (P := Try.prog) W 24 3 a n ka 0 0 Try.underlying24
  have he2 := fun W => Lib.run_eql_slice_nil (P := Try.prog) W 24 3 b n kb 0 0 Try.underlying24
  rw [← hab] at he2
  have HA : Hid (IntsAt w a n f ∧ IntsAt w b n g ∧ ∀ i, i < n → f i = g i) := ⟨ha, hb, hfg⟩
  clear ha hb hfg hab
  obtain ⟨z, hz⟩ : ∃ z, a.isNone = z := ⟨_, rfl⟩
  rw [hz] at he he2
  clear hz
  go_enter Try.func24, Try.ntmps24
  go_wp2
  go_loopg [5] n (fun gk i wr => ∃ j q : Nat, j + gk = n ∧ i = .int .i64 j ∧ wr = w.drewN q)
  case atStart => exact ⟨0, 0, by omega, rfl, rfl⟩
  case round =>
    obtain ⟨j, q, hjk, rfl, rfl⟩ := hrel
    by_cases hj : j < n
    · obtain ⟨b1, o1, rfl, hc1⟩ := HA.out.1 (by omega)
      obtain ⟨b2, o2, rfl, hc2⟩ := HA.out.2.1 (by omega)
      have c1 : w.cell? ⟨b1, o1 + j, none⟩ = some (.int .i64 (f j)) := hc1 j hj
      have c2 : w.cell? ⟨b2, o2 + j, none⟩ = some (.int .i64 (f j)) := by rw [HA.out.2.2 j hj]; exact hc2 j hj
      have hjI : (j : Int) < (n : Int) := by omega
      obtain ⟨q2, rfl⟩ : ∃ q, gk = q + 1 := ⟨gk - 1, by omega⟩
      clear hc1 hc2 he he2
      go_wp2
      go_quiet (fail)
      go_wp2
      go_roundg q2
      case measure => omega
      case rel => exact ⟨j + 1, _, by omega, by go_num, rfl⟩
    · go_wp2
      go_ret
      exact ⟨rfl, _, rfl⟩

end Go.Proofs.Qxb6604039a
