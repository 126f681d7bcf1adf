/-
  What an argument of type [][]Step, []Use reads as, for the walks.
-/
import Derived.Test.Qxb6604039aOpen
import Derived.Test.Qxb6604039aWitClone
namespace Go.Proofs.Qxb6604039a
open Go.ChangeShapes Go.WideShapes Go.ChangeAt Go.RowKit Go.Deep

section
variable {H : Type} {enc : TypeId × Value → H} {W : World} {base : Nat} {spare : Nat → Bool} {held : Bool}

set_option maxRecDepth 10000 in
theorem stp_of {fuel : Nat} {cs : List Value} {x : DataW H × List MemPlace} (h : DataW.trod enc Try.prog W base spare held fuel 43 cs = some x) : ∃ s : Stp, cs = [.int .i64 s.pos, .int .i64 s.node, .int .i64 s.val, .bool s.hv, .int .u8 s.act, .bool s.pr] := by
  obtain ⟨xs, n, _, _, hl, hxl, hf⟩ := DataW.trod_struct Try.underlying43 h
  have hl' : cs.length = 6 := hl.trans (by kernel_rfl)
  have c3 : Try.prog.cellsOf 3 = 1 := by kernel_rfl
  have c2 : Try.prog.cellsOf 2 = 1 := by kernel_rfl
  have c4 : Try.prog.cellsOf 4 = 1 := by kernel_rfl
  have c5 : Try.prog.cellsOf 5 = 1 := by kernel_rfl
  match xs, hxl, cs, hl' with
  | [y0, y1, y2, y3, y4, y5], _, [v0, v1, v2, v3, v4, v5], _ =>
    have g0 := hf 0 _ rfl
    have g1 := hf 1 _ rfl
    have g2 := hf 2 _ rfl
    have g3 := hf 3 _ rfl
    have g4 := hf 4 _ rfl
    have g5 := hf 5 _ rfl
    simp [c3, c2, c4, c5] at g0 g1 g2 g3 g4 g5
    obtain ⟨z0, h0, _⟩ := DataW.trod_int Try.underlying3 g0
    obtain ⟨z1, h1, _⟩ := DataW.trod_int Try.underlying3 g1
    obtain ⟨z2, h2, _⟩ := DataW.trod_int Try.underlying2 g2
    obtain ⟨z3, h3, _⟩ := DataW.trod_bool Try.underlying4 g3
    obtain ⟨z4, h4, _⟩ := DataW.trod_int Try.underlying5 g4
    obtain ⟨z5, h5, _⟩ := DataW.trod_bool Try.underlying4 g5
    simp only [List.cons.injEq, and_true] at h0 h1 h2 h3 h4 h5
    subst h0; subst h1; subst h2; subst h3; subst h4; subst h5
    exact ⟨⟨z0, z1, z2, z3, z4, z5⟩, rfl⟩

set_option maxRecDepth 10000 in
theorem use_of {fuel : Nat} {cs : List Value} {x : DataW H × List MemPlace} (h : DataW.trod enc Try.prog W base spare held fuel 37 cs = some x) : ∃ s : Us, cs = [.int .i64 s.item, .int .i64 s.first, .int .i64 s.hi] := by
  obtain ⟨xs, n, _, _, hl, hxl, hf⟩ := DataW.trod_struct Try.underlying37 h
  have hl' : cs.length = 3 := hl.trans (by kernel_rfl)
  have c3 : Try.prog.cellsOf 3 = 1 := by kernel_rfl
  match xs, hxl, cs, hl' with
  | [y0, y1, y2], _, [v0, v1, v2], _ =>
    have g0 := hf 0 _ rfl
    have g1 := hf 1 _ rfl
    have g2 := hf 2 _ rfl
    simp [c3] at g0 g1 g2
    obtain ⟨z0, h0, _⟩ := DataW.trod_int Try.underlying3 g0
    obtain ⟨z1, h1, _⟩ := DataW.trod_int Try.underlying3 g1
    obtain ⟨z2, h2, _⟩ := DataW.trod_int Try.underlying3 g2
    simp only [List.cons.injEq, and_true] at h0 h1 h2
    subst h0; subst h1; subst h2
    exact ⟨⟨z0, z1, z2⟩, rfl⟩
end

/-- a slice's address is plain -/
theorem spot_plain {W : World} {x : Addr} {v : Value} (h : W.cell? x = some v) : ∃ b o, x = ⟨b, o, none⟩ := by
  obtain ⟨b, o, spot⟩ := x
  have hs : spot = none := World.cell?_spot h
  subst hs
  exact ⟨b, o, rfl⟩
theorem add_zero' (x : Addr) : x.add 0 = x := by cases x; simp [Addr.add]

theorem steps_of {H : Type} {enc : TypeId × Value → H} {W : World} {fuel : Nat} {a : Option Addr} {len cap : Nat} {x : DataW H × List MemPlace} (h : DataW.trod enc Try.prog W 0 (fun _ => true) true fuel 34 [.slice a len cap] = some x) : ∃ S, StepsAt W a len S := by
  rcases open_slice Try.underlying34 h with ⟨hcs, _⟩ | ⟨ad, l, c, m, n, D, Pl, hcs, _, hl, hm, hmm, _, hx⟩
  · simp at hcs
    obtain ⟨rfl, rfl, rfl⟩ := hcs
    exact ⟨fun _ => Stp.zero, fun h => absurd rfl h⟩
  · simp at hcs
    obtain ⟨rfl, rfl, rfl⟩ := hcs
    simp only [if_true] at hmm
    subst hmm
    have c6 : Try.prog.cellsOf 43 = 6 := by kernel_rfl
    rw [c6] at hx
    have iS : Inhabited Stp := ⟨Stp.zero⟩
    obtain ⟨S, hS⟩ := choose_lt (α := Stp) (p := fun i s => ∀ f, f < 6 → W.cell? (ad.add (i * 6 + f)) = some (s.cell f)) (n := m) (fun i hi => by
      obtain ⟨cs', h1, h2⟩ := hx i hi
      obtain ⟨_, hlen, hcell⟩ := World.cells?_some h1
      obtain ⟨s, rfl⟩ := stp_of h2
      refine ⟨s, fun f hf => ?_⟩
      have e := hcell f hf
      rw [add_add] at e
      have hc : f = 0 ∨ f = 1 ∨ f = 2 ∨ f = 3 ∨ f = 4 ∨ f = 5 := by omega
      rcases hc with rfl | rfl | rfl | rfl | rfl | rfl <;> (simp at e; exact e))
    refine ⟨S, fun hn => ?_⟩
    obtain ⟨b, o, rfl⟩ := spot_plain (by have := hS 0 (by omega) 0 (by omega); rwa [Nat.zero_mul, Nat.zero_add, add_zero'] at this)
    refine ⟨b, o, rfl, fun j hj => ?_⟩
    have q : ∀ f, f < 6 → W.cell? ⟨b, o + j * 6 + f, none⟩ = some ((S j).cell f) := fun f hf => by
      have := hS j (by omega) f hf
      rw [add_plain, ← Nat.add_assoc] at this
      exact this
    exact ⟨q 0 (by omega), q 1 (by omega), q 2 (by omega), q 3 (by omega), q 4 (by omega), q 5 (by omega)⟩

theorem logs_of {H : Type} {enc : TypeId × Value → H} {W : World} {a : Option Addr} {len cap : Nat} {d : DataW H} {p : List MemPlace} (h : DataW.Trod enc Try.prog W 0 (fun _ => true) true 31 (.slice a len cap) d p) : (∃ A L C X, LogsAt W a len A L C X) ∧ (a = none → len = 0) := by
  obtain ⟨fuel, hf⟩ := h
  rcases open_slice1 Try.underlying31 (by kernel_rfl) hf with ⟨hcs, _⟩ | ⟨ad, l, c, m, n, V, D, Pl, hcs, _, hl, hm, hmm, _, hx⟩
  · simp [Value.cells] at hcs
    obtain ⟨rfl, rfl, rfl⟩ := hcs
    exact ⟨⟨fun _ => none, fun _ => 0, fun _ => 0, fun _ _ => Stp.zero, fun h => absurd rfl h, fun i hi => by omega⟩, fun _ => rfl⟩
  · simp [Value.cells] at hcs
    obtain ⟨rfl, rfl, rfl⟩ := hcs
    simp only [if_true] at hmm
    subst hmm
    refine ⟨?_, fun h => by cases h⟩
    have iS : Inhabited Stp := ⟨Stp.zero⟩
    obtain ⟨y, hy⟩ := choose_lt (α := Option Addr × Nat × Nat × (Nat → Stp)) (p := fun i y => V i = .slice y.1 y.2.1 y.2.2.1 ∧ StepsAt W y.1 y.2.1 y.2.2.2) (n := m) (fun i hi => by
      have ht := (hx i hi).2
      rcases DataW.trod_slice Try.underlying34 ht with ⟨hv, _⟩ | ⟨a2, l2, c2, _, _, _, _, hv, _⟩
      · simp only [List.cons.injEq, and_true] at hv
        rw [hv] at ht
        obtain ⟨S, hS⟩ := steps_of ht
        exact ⟨(none, 0, 0, S), hv, hS⟩
      · simp only [List.cons.injEq, and_true] at hv
        rw [hv] at ht
        obtain ⟨S, hS⟩ := steps_of ht
        exact ⟨(some a2, l2, c2, S), hv, hS⟩)
    refine ⟨fun i => (y i).1, fun i => (y i).2.1, fun i => (y i).2.2.1, fun i => (y i).2.2.2, fun hn => ?_, fun i hi => (hy i (by omega)).2⟩
    obtain ⟨b, o, rfl⟩ := spot_plain (by have := (hx 0 (by omega)).1; rwa [add_zero'] at this)
    refine ⟨b, o, rfl, fun i hi => ?_⟩
    have := (hx i (by omega)).1
    rw [add_plain, (hy i (by omega)).1] at this
    exact this

theorem uses_of {H : Type} {enc : TypeId × Value → H} {W : World} {a : Option Addr} {len cap : Nat} {d : DataW H} {p : List MemPlace} (h : DataW.Trod enc Try.prog W 0 (fun _ => true) true 32 (.slice a len cap) d p) : (∃ U, UsesAt W a len U) ∧ (a = none → len = 0) := by
  obtain ⟨fuel, hf⟩ := h
  rcases open_slice Try.underlying32 hf with ⟨hcs, _⟩ | ⟨ad, l, c, m, n, D, Pl, hcs, _, hl, hm, hmm, _, hx⟩
  · simp [Value.cells] at hcs
    obtain ⟨rfl, rfl, rfl⟩ := hcs
    exact ⟨⟨fun _ => ⟨0, 0, 0⟩, fun h => absurd rfl h⟩, fun _ => rfl⟩
  · simp [Value.cells] at hcs
    obtain ⟨rfl, rfl, rfl⟩ := hcs
    simp only [if_true] at hmm
    subst hmm
    refine ⟨?_, fun h => by cases h⟩
    have c6 : Try.prog.cellsOf 37 = 3 := by kernel_rfl
    rw [c6] at hx
    have iU : Inhabited Us := ⟨⟨0, 0, 0⟩⟩
    obtain ⟨S, hS⟩ := choose_lt (α := Us) (p := fun i s => ∀ f, f < 3 → W.cell? (ad.add (i * 3 + f)) = some (s.cell f)) (n := m) (fun i hi => by
      obtain ⟨cs', h1, h2⟩ := hx i hi
      obtain ⟨_, hlen, hcell⟩ := World.cells?_some h1
      obtain ⟨s, rfl⟩ := use_of h2
      refine ⟨s, fun f hf => ?_⟩
      have e := hcell f hf
      rw [add_add] at e
      have hc : f = 0 ∨ f = 1 ∨ f = 2 := by omega
      rcases hc with rfl | rfl | rfl <;> (simp at e; exact e))
    refine ⟨S, fun hn => ?_⟩
    obtain ⟨b, o, rfl⟩ := spot_plain (by have := hS 0 (by omega) 0 (by omega); rwa [Nat.zero_mul, Nat.zero_add, add_zero'] at this)
    refine ⟨b, o, rfl, fun j hj => ?_⟩
    have q : ∀ f, f < 3 → W.cell? ⟨b, o + j * 3 + f, none⟩ = some ((S j).cell f) := fun f hf => by
      have := hS j (by omega) f hf
      rw [add_plain, ← Nat.add_assoc] at this
      exact this
    exact ⟨q 0 (by omega), q 1 (by omega), q 2 (by omega)⟩
end Go.Proofs.Qxb6604039a
