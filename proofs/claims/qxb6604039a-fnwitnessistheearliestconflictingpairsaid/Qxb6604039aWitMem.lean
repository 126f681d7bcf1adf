/-
  The steps of a history as memory holds them; zzShared, shared, zzAccessOf, zzSameAccess.
-/
import Derived.Test.Qxb6604039aLeaf2
namespace Go.Proofs.Qxb6604039a
open Go.RowKit

/-- one step: its six fields -/
structure Stp where
  pos : Int
  node : Int
  val : Int
  hv : Bool
  act : Int
  pr : Bool

def Stp.sh (s : Stp) : Bool := decide (s.act = 114) || s.pr
@[reducible] def Stp.v (s : Stp) : Value := .agg #[.int .i64 s.pos, .int .i64 s.node, .int .i64 s.val, .bool s.hv, .int .u8 s.act, .bool s.pr]

set_option maxRecDepth 100000 in
set_option maxHeartbeats 400000 in
theorem shared17 (s : Stp) (w : World) : Calls Try.prog 17 #[s.v] w fun e w' => e = .returned (.bool s.sh) ∧ Kept Nowhere w w' := by
  obtain ⟨p, n, v, hv, a, pr⟩ := s
  unfold Stp.sh Stp.v
  dsimp only
  by_cases h : a = 114
  · subst h
    go_enter Try.func17, Try.ntmps17
    go_wp2
    go_ret
    exact ⟨rfl, (Kept.refl _ _).alloc _⟩
  · have hd : (a == 114) = false := by simp [h]
    go_enter Try.func17, Try.ntmps17
    go_wp2
    go_ret
    exact ⟨by simp [h], (Kept.refl _ _).alloc _⟩
set_option maxRecDepth 100000 in
set_option maxHeartbeats 400000 in
theorem shared34 (s : Stp) (w : World) : Calls Try.prog 34 #[s.v] w fun e w' => e = .returned (.bool s.sh) ∧ Kept Nowhere w w' := by
  obtain ⟨p, n, v, hv, a, pr⟩ := s
  unfold Stp.sh Stp.v
  dsimp only
  by_cases h : a = 114
  · subst h
    go_enter Try.func34, Try.ntmps34
    go_wp2
    go_ret
    exact ⟨rfl, (Kept.refl _ _).alloc _⟩
  · have hd : (a == 114) = false := by simp [h]
    go_enter Try.func34, Try.ntmps34
    go_wp2
    go_ret
    exact ⟨by simp [h], (Kept.refl _ _).alloc _⟩

set_option maxRecDepth 100000 in
set_option maxHeartbeats 400000 in
theorem accessOf32 (s : Stp) (w : World) : Calls Try.prog 32 #[s.v] w fun e w' => e = .returned s.v ∧ Kept Nowhere w w' := by
  obtain ⟨p, n, v, hv, a, pr⟩ := s
  unfold Stp.v
  dsimp only
  go_enter Try.func32, Try.ntmps32
  go_wp2
  refine bodyPost_ret (v := .agg #[.int .i64 p, .int .i64 n, .int .i64 v, .bool hv, .int .u8 a, .bool pr]) (by simp [results, Try.results32, go_sem]) rfl ⟨rfl, ?_⟩
  repeat (first | exact Kept.refl _ _ | apply Kept.alloc)
  
set_option maxRecDepth 100000 in
set_option maxHeartbeats 400000 in
theorem same19 (s : Stp) (w : World) : Calls Try.prog 19 #[s.v, s.v] w fun e w' => e = .returned (.bool true) ∧ Kept Nowhere w w' := by
  obtain ⟨p, n, v, hv, a, pr⟩ := s
  unfold Stp.v
  dsimp only
  go_enter Try.func19, Try.ntmps19
  go_wp2
  go_ret
  refine ⟨rfl, ?_⟩
  repeat (first | exact Kept.refl _ _ | apply Kept.alloc)

/-- a slice of steps that is only read -/
def StepsAt (w : World) (a : Option Addr) (n : Nat) (S : Nat → Stp) : Prop :=
  n ≠ 0 → ∃ b o, a = some ⟨b, o, none⟩ ∧ ∀ j, j < n → w.cell? ⟨b, o + j * 6, none⟩ = some (.int .i64 (S j).pos) ∧ w.cell? ⟨b, o + j * 6 + 1, none⟩ = some (.int .i64 (S j).node) ∧ w.cell? ⟨b, o + j * 6 + 2, none⟩ = some (.int .i64 (S j).val) ∧ w.cell? ⟨b, o + j * 6 + 3, none⟩ = some (.bool (S j).hv) ∧ w.cell? ⟨b, o + j * 6 + 4, none⟩ = some (.int .u8 (S j).act) ∧ w.cell? ⟨b, o + j * 6 + 5, none⟩ = some (.bool (S j).pr)

/-- a slice of slices of steps that is only read -/
def LogsAt (w : World) (a : Option Addr) (n : Nat) (A : Nat → Option Addr) (L C : Nat → Nat) (X : Nat → Nat → Stp) : Prop :=
  (n ≠ 0 → ∃ b o, a = some ⟨b, o, none⟩ ∧ ∀ i, i < n → w.cell? ⟨b, o + i, none⟩ = some (.slice (A i) (L i) (C i))) ∧ ∀ i, i < n → StepsAt w (A i) (L i) (X i)

theorem StepsAt.kept {w w' : World} {a : Option Addr} {n : Nat} {S : Nat → Stp} (h : StepsAt w a n S) (k : Kept Nowhere w w') : StepsAt w' a n S := by
  intro hx
  obtain ⟨b, o, ha, hc⟩ := h hx
  refine ⟨b, o, ha, fun j hj => ?_⟩
  obtain ⟨h0, h1, h2, h3, h4, h5⟩ := hc j hj
  exact ⟨k.nothing_cell (fun _ h => h) h0, k.nothing_cell (fun _ h => h) h1, k.nothing_cell (fun _ h => h) h2, k.nothing_cell (fun _ h => h) h3, k.nothing_cell (fun _ h => h) h4, k.nothing_cell (fun _ h => h) h5⟩

theorem LogsAt.kept {w w' : World} {a : Option Addr} {n : Nat} {A : Nat → Option Addr} {L C : Nat → Nat} {X : Nat → Nat → Stp} (h : LogsAt w a n A L C X) (k : Kept Nowhere w w') : LogsAt w' a n A L C X :=
  ⟨fun hn => by
    obtain ⟨b, o, ha, hc⟩ := h.1 hn
    exact ⟨b, o, ha, fun i hi => k.nothing_cell (fun _ h => h) (hc i hi)⟩, fun i hi => (h.2 i hi).kept k⟩
end Go.Proofs.Qxb6604039a
