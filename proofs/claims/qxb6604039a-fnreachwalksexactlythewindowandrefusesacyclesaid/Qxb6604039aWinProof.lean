/-
  THE PROOF OF 'Rows.FnReachWalksExactlyTheWindowAndRefusesACycleSaid': the walk (proved in the texts imported) lifted to the row. The frame is after the kit's skeleton for laws over slices.
-/
import Derived.Test.Qxb6604039aRows
import Derived.Test.Qxb6604039aOpen
import Derived.Test.Qxb6604039aWinBig
import Derived.Test.Qxb6604039aWinF
import Derived.Test.Qxb6604039aWinB
namespace Go.Proofs.Qxb6604039a.fnReachWalksExactlyTheWindowAndRefusesACycle
open Go.ChangeShapes Go.WideShapes Go.ChangeAt Go.RowKit

theorem walk (sa pa oa ma qa fa ba : Option Addr) (sn sk pn pk n ok mn mk qn qk fn fk bn bk : Nat) (stamp start e bound : Int) (fwd : Bool) (A : Nat → Option Addr) (L C : Nat → Nat) (X : Nat → Nat → Int) (A' : Nat → Option Addr) (L' C' : Nat → Nat) (X' : Nat → Nat → Int) (O M P Fw Bk : Nat → Int) (w : World)
    (hs : GraphAt w sa sn A L C X) (hp : GraphAt w pa pn A' L' C' X') (ho : IntsAt w oa n O) (hm : IntsAt w ma mn M) (hq : IntsAt w qa qn P) (hfw : IntsAt w fa fn Fw) (hbk : IntsAt w ba bn Bk) (hst : -9223372036854775808 ≤ stamp) :
    Calls Try.prog 5 #[.slice sa sn sk, .slice pa pn pk, .slice oa n ok, .int .i64 stamp, .slice ma mn mk, .slice qa qn qk, .slice fa fn fk, .slice ba bn bk, .int .i64 start, .int .i64 e, .int .i64 bound, .bool fwd] w fun e w' => e = .returned (.bool true) ∧ Below w.heap.size w w' := by
  by_cases hbig : 65536 < (sn : Int) ∨ 65536 < (pn : Int) ∨ 131072 < (n : Int) ∨ 131072 < (mn : Int) ∨ 131072 < (qn : Int) ∨ 131072 < (fn : Int) ∨ 131072 < (bn : Int) ∨ 1048576 < 8 * ((n : Int) + mn + qn + fn + bn)
  · exact window_big fwd sa pa oa ma qa fa ba sn sk pn pk n ok mn mk qn qk fn fk bn bk stamp start e bound A L C X A' L' C' X' w hs hp hbig
  · have g : (sn : Int) ≤ 65536 ∧ (pn : Int) ≤ 65536 ∧ (n : Int) ≤ 131072 ∧ (mn : Int) ≤ 131072 ∧ (qn : Int) ≤ 131072 ∧ (fn : Int) ≤ 131072 ∧ (bn : Int) ≤ 131072 ∧ 8 * ((n : Int) + mn + qn + fn + bn) ≤ 1048576 := by omega
    obtain ⟨g0, g1, g2, g3, g4, g5, g6, g7⟩ := g
    cases fwd with
    | true => exact window_fwd sa pa oa ma qa fa ba sn sk pn pk n ok mn mk qn qk fn fk bn bk stamp start e bound A L C X A' L' C' X' O M P Fw Bk w hs hp ho hm hq hfw hbk hst g0 g1 g2 g3 g4 g5 g6 g7
    | false => exact window_bwd sa pa oa ma qa fa ba sn sk pn pk n ok mn mk qn qk fn fk bn bk stamp start e bound A L C X A' L' C' X' O M P Fw Bk w hs hp ho hm hq hfw hbk hst g0 g1 g2 g3 g4 g5 g6 g7

theorem low_of {n : Int} (h : (Lit.int .i64 n).wf = true) : -9223372036854775808 ≤ n := (bounds_i64 h).1

set_option maxRecDepth 100000 in
theorem lifted (os : Os) (started : os.Started) (H : Type) (enc : TypeId × Value → H) :
    ReturnsInHanded {} Try.checked os 5 .any (Rows.fnReachWalksExactlyTheWindowAndRefusesACycleSpec.pre6 enc Try.prog Try.f5 Rows.fnReachWalksExactlyTheWindowAndRefusesACycleRow.domain false) (Rows.fnReachWalksExactlyTheWindowAndRefusesACycleSpec.post enc Try.prog Try.f5 false true false false) := by
  refine returnsInHanded_of_change (C := Try.checked) own started (by kernel_rfl) Try.func5
    (ChangeSpec.witness6 (enc := enc) (C := Try.checked) false ⟨#[], #[.slice none 0 0, .slice none 0 0, .slice none 0 0, .int .i64 0, .slice none 0 0, .slice none 0 0, .slice none 0 0, .slice none 0 0, .int .i64 0, .int .i64 0, .int .i64 0, .bool false], []⟩ 8 (by kernel_rfl) (by kernel_rfl) (by kernel_rfl) (by kernel_rfl)) ?_
  intro W base args ds gs before hval0 hW hcnd _
  have hval : ∀ (j : Nat) t v, Try.f5.params[j]? = some t → args[j]? = some v → Value.okWide Try.prog W .any base t v := hval0
  have hW' := hW
  obtain ⟨p, q, hA0, hV, rfl, hfz, hnd⟩ := hW
  have hA : DataW.TrodAll enc Try.prog W 0 (fun _ => true) true Try.f5.params.toList args.toList ds p := hA0
  rw [Try.params5] at hA hval
  obtain ⟨v0, vs0, d0, ds0, p0, q0, hargs, rfl, rfl, h0, r0⟩ := trodAll_cons hA
  obtain ⟨v1, vs1, d1, ds1, p1, q1, rfl, rfl, rfl, h1, r1⟩ := trodAll_cons r0
  obtain ⟨v2, vs2, d2, ds2, p2, q2, rfl, rfl, rfl, h2, r2⟩ := trodAll_cons r1
  obtain ⟨v3, vs3, d3, ds3, p3, q3, rfl, rfl, rfl, h3, r3⟩ := trodAll_cons r2
  obtain ⟨v4, vs4, d4, ds4, p4, q4, rfl, rfl, rfl, h4, r4⟩ := trodAll_cons r3
  obtain ⟨v5, vs5, d5, ds5, p5, q5, rfl, rfl, rfl, h5, r5⟩ := trodAll_cons r4
  obtain ⟨v6, vs6, d6, ds6, p6, q6, rfl, rfl, rfl, h6, r6⟩ := trodAll_cons r5
  obtain ⟨v7, vs7, d7, ds7, p7, q7, rfl, rfl, rfl, h7, r7⟩ := trodAll_cons r6
  obtain ⟨v8, vs8, d8, ds8, p8, q8, rfl, rfl, rfl, h8, r8⟩ := trodAll_cons r7
  obtain ⟨v9, vs9, d9, ds9, p9, q9, rfl, rfl, rfl, h9, r9⟩ := trodAll_cons r8
  obtain ⟨v10, vs10, d10, ds10, p10, q10, rfl, rfl, rfl, h10, r10⟩ := trodAll_cons r9
  obtain ⟨v11, vs11, d11, ds11, p11, q11, rfl, rfl, rfl, h11, r11⟩ := trodAll_cons r10
  obtain ⟨rfl, rfl, rfl⟩ := trodAll_nil r11
  obtain rfl : args = #[v0, v1, v2, v3, v4, v5, v6, v7, v8, v9, v10, v11] := by cases args; simp_all
  obtain ⟨rfl, rfl⟩ := trodVars_none hV
  obtain ⟨a0, len0, cap0, rfl⟩ := okWide_slice Try.underlying22 (hval 0 22 v0 rfl rfl)
  have lt0 : ∀ x ∈ p0, x.block < W.heap.size := by obtain ⟨m, hm⟩ := h0; exact DataW.trod_lt m _ _ _ hm
  obtain ⟨A0, L0, C0, X0, w0⟩ := graph_of h0
  obtain ⟨a1, len1, cap1, rfl⟩ := okWide_slice Try.underlying22 (hval 1 22 v1 rfl rfl)
  have lt1 : ∀ x ∈ p1, x.block < W.heap.size := by obtain ⟨m, hm⟩ := h1; exact DataW.trod_lt m _ _ _ hm
  obtain ⟨A1, L1, C1, X1, w1⟩ := graph_of h1
  obtain ⟨a2, len2, cap2, rfl⟩ := okWide_slice Try.underlying24 (hval 2 24 v2 rfl rfl)
  have lt2 : ∀ x ∈ p2, x.block < W.heap.size := by obtain ⟨m, hm⟩ := h2; exact DataW.trod_lt m _ _ _ hm
  obtain ⟨f2, w2⟩ := ints_of h2
  obtain ⟨a3, rfl, rfl, rfl, w3⟩ := open_int Try.underlying3 (hval 3 3 v3 rfl rfl) h3
  obtain ⟨a4, len4, cap4, rfl⟩ := okWide_slice Try.underlying24 (hval 4 24 v4 rfl rfl)
  have lt4 : ∀ x ∈ p4, x.block < W.heap.size := by obtain ⟨m, hm⟩ := h4; exact DataW.trod_lt m _ _ _ hm
  obtain ⟨f4, w4⟩ := ints_of h4
  obtain ⟨a5, len5, cap5, rfl⟩ := okWide_slice Try.underlying24 (hval 5 24 v5 rfl rfl)
  have lt5 : ∀ x ∈ p5, x.block < W.heap.size := by obtain ⟨m, hm⟩ := h5; exact DataW.trod_lt m _ _ _ hm
  obtain ⟨f5, w5⟩ := ints_of h5
  obtain ⟨a6, len6, cap6, rfl⟩ := okWide_slice Try.underlying24 (hval 6 24 v6 rfl rfl)
  have lt6 : ∀ x ∈ p6, x.block < W.heap.size := by obtain ⟨m, hm⟩ := h6; exact DataW.trod_lt m _ _ _ hm
  obtain ⟨f6, w6⟩ := ints_of h6
  obtain ⟨a7, len7, cap7, rfl⟩ := okWide_slice Try.underlying24 (hval 7 24 v7 rfl rfl)
  have lt7 : ∀ x ∈ p7, x.block < W.heap.size := by obtain ⟨m, hm⟩ := h7; exact DataW.trod_lt m _ _ _ hm
  obtain ⟨f7, w7⟩ := ints_of h7
  obtain ⟨a8, rfl, rfl, rfl, w8⟩ := open_int Try.underlying3 (hval 8 3 v8 rfl rfl) h8
  obtain ⟨a9, rfl, rfl, rfl, w9⟩ := open_int Try.underlying3 (hval 9 3 v9 rfl rfl) h9
  obtain ⟨a10, rfl, rfl, rfl, w10⟩ := open_int Try.underlying3 (hval 10 3 v10 rfl rfl) h10
  obtain ⟨a11, rfl, rfl, rfl⟩ := open_bool Try.underlying4 (hval 11 4 v11 rfl rfl) h11
  clear hA0 hval0
  refine (walk a0 a1 a2 a4 a5 a6 a7 len0 cap0 len1 cap1 len2 cap2 len4 cap4 len5 cap5 len6 cap6 len7 cap7 a3 a8 a9 a10 a11 A0 L0 C0 X0 A1 L1 C1 X1 f2 f4 f5 f6 f7 W w0 w1 w2 w4 w5 w6 w7 (low_of w3)).mono fun e W' ⟨he, bel⟩ => ?_
  subst he
  exact ⟨_, rfl, _, _, _, [], _, [], hW', trodAll_mk1 (shut_bool Try.underlying4 _), (trodAll_cons_mk (Below.trod laidOut (by kernel_rfl) (of_decide_eq_true (by kernel_rfl)) h0 bel lt0) (trodAll_cons_mk (Below.trod laidOut (by kernel_rfl) (of_decide_eq_true (by kernel_rfl)) h1 bel lt1) (trodAll_cons_mk (Below.trod laidOut (by kernel_rfl) (of_decide_eq_true (by kernel_rfl)) h2 bel lt2) (trodAll_cons_mk (shut_int Try.underlying3 w3) (trodAll_cons_mk (Below.trod laidOut (by kernel_rfl) (of_decide_eq_true (by kernel_rfl)) h4 bel lt4) (trodAll_cons_mk (Below.trod laidOut (by kernel_rfl) (of_decide_eq_true (by kernel_rfl)) h5 bel lt5) (trodAll_cons_mk (Below.trod laidOut (by kernel_rfl) (of_decide_eq_true (by kernel_rfl)) h6 bel lt6) (trodAll_cons_mk (Below.trod laidOut (by kernel_rfl) (of_decide_eq_true (by kernel_rfl)) h7 bel lt7) (trodAll_cons_mk (shut_int Try.underlying3 w8) (trodAll_cons_mk (shut_int Try.underlying3 w9) (trodAll_cons_mk (shut_int Try.underlying3 w10) (trodAll_cons_mk (shut_bool Try.underlying4 _) trodAll_mk0)))))))))))), rfl, bel.frame _, fun h => by cases h⟩

theorem over : Rows.fnReachWalksExactlyTheWindowAndRefusesACycleRow.holds Try.pinned (OpenSpec.ofChange Rows.fnReachWalksExactlyTheWindowAndRefusesACycleSpec) :=
  OpenClaim.holds_of_wide 5 Try.f5 rfl rfl rfl rfl rfl rfl rfl ⟨rfl, rfl, rfl, rfl, rfl⟩ rfl rfl rfl rfl rfl (by kernel_rfl) Try.func5 (by kernel_rfl)
    (of_decide_eq_true (by kernel_rfl)) (by unfold Func.isWrapper; first | (rw [if_pos (by decide +kernel)]; kernel_rfl) | (rw [if_neg (by decide +kernel)]; exact ⟨rfl, rfl⟩))
    (fun os started H enc _ => lifted os started H enc)

/-- THE STATEMENT -/
theorem proved : Rows.FnReachWalksExactlyTheWindowAndRefusesACycleSaid := over
end Go.Proofs.Qxb6604039a.fnReachWalksExactlyTheWindowAndRefusesACycle
