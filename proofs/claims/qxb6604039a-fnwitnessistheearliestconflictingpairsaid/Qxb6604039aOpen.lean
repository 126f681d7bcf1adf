/-
  What an argument of type []int, [][]int reads as, for the walks.
-/
import Derived.Test.Qxb6604039aLeaf2
import Derived.ProofKit
import Derived.OpenShut
import Derived.ShutString
import Derived.ChangeOld
import Derived.Below
import Derived.Deep.Matrix
namespace Go.Proofs.Qxb6604039a
open Go.ChangeShapes Go.WideShapes Go.ChangeAt Go.RowKit Go.Deep

theorem own : ownKnob Try.prog.godebug = none := by kernel_rfl
theorem laidOut : laidOutB Try.prog = true := by kernel_rfl

theorem spot_of {W : World} {x : Addr} {n : Nat} {f : Nat → Value} (h : ∀ i, i < n → W.cell? (x.add i) = some (f i)) (hn : n ≠ 0) : ∃ b o, x = ⟨b, o, none⟩ ∧ ∀ i, i < n → W.cell? ⟨b, o + i, none⟩ = some (f i) := by
  obtain ⟨b, o, spot⟩ := x
  have hs : spot = none := by simpa [Addr.add] using World.cell?_spot (h 0 (by omega))
  subst hs
  exact ⟨b, o, rfl, fun i hi => by rw [← add_plain]; exact h i hi⟩

theorem ints_of {H : Type} {enc : TypeId × Value → H} {W : World} {a : Option Addr} {len cap : Nat} {d : DataW H} {p : List MemPlace} (h : DataW.Trod enc Try.prog W 0 (fun _ => true) true 24 (.slice a len cap) d p) : ∃ f, IntsAt W a len f := by
  obtain ⟨fuel, hf⟩ := h
  rcases open_ints Try.underlying24 Try.underlying3 (by kernel_rfl) hf with ⟨hcs, _⟩ | ⟨x, l, c, zs, hcs, _, hl, hm, hz, _, hcell, hwz⟩
  · simp [Value.cells] at hcs
    obtain ⟨rfl, rfl, rfl⟩ := hcs
    exact ⟨fun _ => 0, fun h => absurd rfl h⟩
  · simp [Value.cells] at hcs
    obtain ⟨rfl, rfl, rfl⟩ := hcs
    simp only [if_true] at hz
    refine ⟨fun i => zs.getD i 0, fun hn => ?_⟩
    obtain ⟨b, o, rfl, hc⟩ := spot_of (n := zs.length) (f := fun i => .int .i64 (zs.getD i 0)) hcell (by omega)
    exact ⟨b, o, rfl, fun j hj => hc j (by omega)⟩

theorem graph_of {H : Type} {enc : TypeId × Value → H} {W : World} {a : Option Addr} {len cap : Nat} {d : DataW H} {p : List MemPlace} (h : DataW.Trod enc Try.prog W 0 (fun _ => true) true 22 (.slice a len cap) d p) : ∃ A L C X, GraphAt W a len A L C X := by
  obtain ⟨fuel, hf⟩ := h
  rcases open_int_rows Try.underlying22 Try.underlying24 Try.underlying3 (by kernel_rfl) (by kernel_rfl) hf with ⟨hcs, _⟩ | ⟨x, l, c, A, L, C, Z, hcs, _, hl, hm, _, hcell⟩
  · simp [Value.cells] at hcs
    obtain ⟨rfl, rfl, rfl⟩ := hcs
    exact ⟨fun _ => none, fun _ => 0, fun _ => 0, fun _ _ => 0, fun h => absurd rfl h, fun i hi => by omega⟩
  · simp [Value.cells] at hcs
    obtain ⟨rfl, rfl, rfl⟩ := hcs
    refine ⟨A, L, C, fun i j => (Z i).getD j 0, fun hn => ?_, fun i hi hn => ?_⟩
    · obtain ⟨b, o, rfl, hc⟩ := spot_of (n := cap) (f := fun i => .slice (A i) (L i) (C i)) (fun i hi => (hcell i hi).1) (by omega)
      exact ⟨b, o, rfl, fun i hi => hc i (by omega)⟩
    · obtain ⟨_, h1, _, _, _, h5, h6⟩ := hcell i (by omega)
      cases ha : A i with
      | none => have := h5 ha; omega
      | some a' =>
        obtain ⟨b, o, rfl, hc⟩ := spot_of (n := C i) (f := fun j => .int .i64 ((Z i).getD j 0)) (h6 a' ha).2 (by omega)
        exact ⟨b, o, rfl, fun j hj => hc j (by omega)⟩

end Go.Proofs.Qxb6604039a
