/-
  THE PROOF OF 'Rows.FnWitnessIsTheEarliestConflictingPairSaid': the walk (proved in the texts imported) is lifted to the row. The frame is after the kit's skeleton for laws over slices.
-/
import Derived.Test.Qxb6604039aRows
import Derived.Test.Qxb6604039aWitOpen
import Derived.Test.Qxb6604039aWitBig
import Derived.Test.Qxb6604039aWitLaw
namespace Go.Proofs.Qxb6604039a.fnWitnessIsTheEarliestConflictingPair
open Go.ChangeShapes Go.WideShapes Go.ChangeAt Go.RowKit

theorem walk (a aU au : Option Addr) (n k nU kU nu ku : Nat) (x y : Int) (A : Nat → Option Addr) (L C : Nat → Nat) (X : Nat → Nat → Stp) (U : Nat → Us) (O : Nat → Int) (w : World)
    (h : LogsAt w a n A L C X) (hU : UsesAt w aU nU U) (hO : IntsAt w au nu O) (ha : a = none → n = 0) (haU : aU = none → nU = 0) :
    Calls Try.prog 4 #[.slice a n k, .slice aU nU kU, .slice au nu ku, .int .i64 x, .int .i64 y] w fun e w' => e = .returned (.bool true) ∧ Below w.heap.size w w' := by
  have q : Calls Try.prog 4 #[.slice a n k, .slice aU nU kU, .slice au nu ku, .int .i64 x, .int .i64 y] w fun e w' => e = .returned (.bool true) ∧ Kept Nowhere w w' := by
    by_cases hbig : 4096 < (n : Int) ∨ 32768 < (nU : Int) ∨ 65536 < (nu : Int) ∨ 1048576 < 8 * (nu : Int) + 24 * (nU : Int)
    · exact witlaw_big a aU au n k nU kU nu ku x y A L C X w h hbig
    · exact witlaw_small a aU au n k nU kU nu ku x y A L C X U O w h hU hO ha haU (by omega) (by omega) (by omega) (by omega)
  exact q.mono fun e w' ⟨he, hk⟩ => ⟨he, hk.below (Nat.le_refl _) (fun _ _ h => h.elim)⟩

set_option maxRecDepth 100000 in
theorem lifted (os : Os) (started : os.Started) (H : Type) (enc : TypeId × Value → H) :
    ReturnsInHanded {} Try.checked os 4 .any (Rows.fnWitnessIsTheEarliestConflictingPairSpec.pre6 enc Try.prog Try.f4 Rows.fnWitnessIsTheEarliestConflictingPairRow.domain false) (Rows.fnWitnessIsTheEarliestConflictingPairSpec.post enc Try.prog Try.f4 false true false false) := by
  refine returnsInHanded_of_change (C := Try.checked) own started (by kernel_rfl) Try.func4
    (ChangeSpec.witness6 (enc := enc) (C := Try.checked) false ⟨#[], #[.slice none 0 0, .slice none 0 0, .slice none 0 0, .int .i64 0, .int .i64 0], []⟩ 8 (by kernel_rfl) (by kernel_rfl) (by kernel_rfl) (by kernel_rfl)) ?_
  intro W base args ds gs before hval0 hW hcnd _
  have hval : ∀ (j : Nat) t v, Try.f4.params[j]? = some t → args[j]? = some v → Value.okWide Try.prog W .any base t v := hval0
  have hW' := hW
  obtain ⟨p, q, hA0, hV, rfl, hfz, hnd⟩ := hW
  have hA : DataW.TrodAll enc Try.prog W 0 (fun _ => true) true Try.f4.params.toList args.toList ds p := hA0
  rw [Try.params4] at hA hval
  obtain ⟨v0, vs0, d0, ds0, p0, q0, hargs, rfl, rfl, h0, r0⟩ := trodAll_cons hA
  obtain ⟨v1, vs1, d1, ds1, p1, q1, rfl, rfl, rfl, h1, r1⟩ := trodAll_cons r0
  obtain ⟨v2, vs2, d2, ds2, p2, q2, rfl, rfl, rfl, h2, r2⟩ := trodAll_cons r1
  obtain ⟨v3, vs3, d3, ds3, p3, q3, rfl, rfl, rfl, h3, r3⟩ := trodAll_cons r2
  obtain ⟨v4, vs4, d4, ds4, p4, q4, rfl, rfl, rfl, h4, r4⟩ := trodAll_cons r3
  obtain ⟨rfl, rfl, rfl⟩ := trodAll_nil r4
  obtain rfl : args = #[v0, v1, v2, v3, v4] := by cases args; simp_all
  obtain ⟨rfl, rfl⟩ := trodVars_none hV
  obtain ⟨a0, len0, cap0, rfl⟩ := okWide_slice Try.underlying31 (hval 0 31 v0 rfl rfl)
  have lt0 : ∀ x ∈ p0, x.block < W.heap.size := by obtain ⟨m, hm⟩ := h0; exact DataW.trod_lt m _ _ _ hm
  obtain ⟨⟨A0, L0, C0, X0, w0⟩, n0⟩ := logs_of h0
  obtain ⟨a1, len1, cap1, rfl⟩ := okWide_slice Try.underlying32 (hval 1 32 v1 rfl rfl)
  have lt1 : ∀ x ∈ p1, x.block < W.heap.size := by obtain ⟨m, hm⟩ := h1; exact DataW.trod_lt m _ _ _ hm
  obtain ⟨⟨U1, w1⟩, n1⟩ := uses_of h1
  obtain ⟨a2, len2, cap2, rfl⟩ := okWide_slice Try.underlying24 (hval 2 24 v2 rfl rfl)
  have lt2 : ∀ x ∈ p2, x.block < W.heap.size := by obtain ⟨m, hm⟩ := h2; exact DataW.trod_lt m _ _ _ hm
  obtain ⟨f2, w2⟩ := ints_of h2
  obtain ⟨a3, rfl, rfl, rfl, w3⟩ := open_int Try.underlying3 (hval 3 3 v3 rfl rfl) h3
  obtain ⟨a4, rfl, rfl, rfl, w4⟩ := open_int Try.underlying3 (hval 4 3 v4 rfl rfl) h4
  clear hA0 hval0
  refine (walk a0 a1 a2 len0 cap0 len1 cap1 len2 cap2 a3 a4 A0 L0 C0 X0 U1 f2 W w0 w1 w2 n0 n1).mono fun e W' ⟨he, bel⟩ => ?_
  subst he
  exact ⟨_, rfl, _, _, _, [], _, [], hW', trodAll_mk1 (shut_bool Try.underlying4 _), (trodAll_cons_mk (Below.trod laidOut (by kernel_rfl) (of_decide_eq_true (by kernel_rfl)) h0 bel lt0) (trodAll_cons_mk (Below.trod laidOut (by kernel_rfl) (of_decide_eq_true (by kernel_rfl)) h1 bel lt1) (trodAll_cons_mk (Below.trod laidOut (by kernel_rfl) (of_decide_eq_true (by kernel_rfl)) h2 bel lt2) (trodAll_cons_mk (shut_int Try.underlying3 w3) (trodAll_cons_mk (shut_int Try.underlying3 w4) trodAll_mk0))))), rfl, bel.frame _, fun h => by cases h⟩

theorem over : Rows.fnWitnessIsTheEarliestConflictingPairRow.holds Try.pinned (OpenSpec.ofChange Rows.fnWitnessIsTheEarliestConflictingPairSpec) :=
  OpenClaim.holds_of_wide 4 Try.f4 rfl rfl rfl rfl rfl rfl rfl ⟨rfl, rfl, rfl, rfl, rfl⟩ rfl rfl rfl rfl rfl (by kernel_rfl) Try.func4 (by kernel_rfl)
    (of_decide_eq_true (by kernel_rfl)) (by unfold Func.isWrapper; first | (rw [if_pos (by decide +kernel)]; kernel_rfl) | (rw [if_neg (by decide +kernel)]; exact ⟨rfl, rfl⟩))
    (fun os started H enc _ => lifted os started H enc)

/-- THE STATEMENT -/
theorem proved : Rows.FnWitnessIsTheEarliestConflictingPairSaid := over
end Go.Proofs.Qxb6604039a.fnWitnessIsTheEarliestConflictingPair
