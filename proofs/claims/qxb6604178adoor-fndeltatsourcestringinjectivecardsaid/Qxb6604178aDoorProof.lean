/-
  THE ROW AND THE TIED CARD of FnDeltaTSourceStringInjective. The frame is after the guide's MapyProofs, MapyCard.
-/
import Derived.Test.Qxb6604178aDoorCards
import Derived.Test.Qxb6604178aDoorTie
import Derived.Test.Qxb6604178aDoorWalks
import Derived.ProofKit
import Derived.LaidMore
import Derived.OpenShut
import Derived.Stop.Joined
import Derived.SevenTiedAt
namespace Go.Proofs.Qxb6604178aDoor.delta
open Go.ChangeShapes Go.WideShapes Go.ChangeAt Go.RowKit

theorem own : ownKnob Tryd.prog.godebug = none := by kernel_rfl
theorem g2 : Tryd.prog.globalNamed powName = some 0 := by kernel_rfl
theorem t2 : (Tryd.prog.globals[0]?).map (·.type) = some 36 := by kernel_rfl

theorem door_met (os : Os) (args : Array Value) : laidMetH Tryd.prog Rows.fnDeltaTSourceStringInjectiveRow.laid ((World.doorLaid Tryd.prog 400 os).forCall (fun _ _ => 0) ⟨#[], args, []⟩).memory :=
  laidMetH_of_parts3 (fuel := 8) (laidMet_of_run' 8 (by kernel_rfl) (by kernel_rfl)) (by kernel_rfl) (by kernel_rfl)

/-- WHAT THE CONDITION GIVES THE WALK: the table of powers of ten. -/
theorem of_laid {W : World} (h : laidMetH Tryd.prog Rows.fnDeltaTSourceStringInjectiveRow.laid W) : Lib.TabIs Tryd.prog W powName .u64 Lib.pow10Tab ∧ 0 < W.heap.size := by
  rw [MakeChecks.laidMetH_plain _ _ _ (by kernel_rfl)] at h
  obtain ⟨ps, ⟨_, _, _, _, _, _, _, _, _, _, ⟨_, _, _, _, _, _, _, _, _, _, ⟨g, t, cs, fuel, p, q, hg, ht, hvar, hd, _, _⟩, _⟩, _⟩, _, _⟩ := h
  obtain rfl := Option.some.inj (g2.symm.trans hg)
  obtain rfl := Option.some.inj (t2.symm.trans ht)
  have hd' : DataW.trod _ Tryd.prog W _ _ _ fuel 36 cs.toList = some (Lib.tabData .u64 Lib.pow10Tab, p) := hd
  refine ⟨?_, ?_⟩
  · unfold Lib.TabIs
    have hvar' : W.var? Tryd.prog powName = some cs := hvar
    rw [hvar', ← Lib.cells_of_tab Tryd.underlying36 Tryd.underlying28 (by kernel_rfl) (by kernel_rfl) hd']
  · have hc := World.var?_cell g2 hvar 0
    have hl : 0 < cs.size := by
      have := Lib.cells_of_tab Tryd.underlying36 Tryd.underlying28 (by kernel_rfl) (by kernel_rfl) hd'
      have h2 := congrArg List.length this
      simp [Lib.pow10Tab] at h2
      omega
    obtain ⟨v, hv⟩ : ∃ v, W.cell? ⟨0, 0, none⟩ = some v := ⟨_, by rw [hc]; exact Array.getElem?_eq_getElem hl⟩
    exact World.block_lt_of_cell? W _ hv

theorem bnd {n : Int} (h : (Lit.int .i64 n).wf = true) : -9223372036854775808 ≤ n ∧ n ≤ 9223372036854775807 := bounds_i64 h

set_option maxRecDepth 100000 in
theorem lifted (os : Os) (started : os.Started) (H : Type) (enc : TypeId × Value → H) :
    ReturnsInHanded {} Tryd.checked os 3 .any (fun w args => (Rows.fnDeltaTSourceStringInjectiveSpec.pre enc Tryd.prog Tryd.f3 [] false w args ∧ laidMetH Tryd.prog Rows.fnDeltaTSourceStringInjectiveRow.laid w) ∧ sizedMet enc Tryd.prog Tryd.f3 (OpenSpec.ofChange Rows.fnDeltaTSourceStringInjectiveSpec) false w args)
      (Rows.fnDeltaTSourceStringInjectiveSpec.post enc Tryd.prog Tryd.f3 false true false false) := by
  refine returnsInHanded_of_change_and (C := Tryd.checked) (X := fun w _ => laidMetH Tryd.prog Rows.fnDeltaTSourceStringInjectiveRow.laid w) (fun _ _ _ hh h => h.of_heap hh) own started (by kernel_rfl) Tryd.func3
    (ChangeSpec.witness_shaped (enc := enc) (C := Tryd.checked) (os := os) (X := fun w _ => laidMetH Tryd.prog Rows.fnDeltaTSourceStringInjectiveRow.laid w) false (World.doorLaid Tryd.prog 400 os) #[.int .i64 0, .int .i64 0] 8 rfl (World.shaped_of_RefB (by kernel_rfl) (by kernel_rfl)) (by kernel_rfl) (by kernel_rfl) (by kernel_rfl) (door_met os _)) ?_
  intro W base args ds gs before hval0 hW _ _ hL _
  have hval : ∀ (j : Nat) t v, Tryd.f3.params[j]? = some t → args[j]? = some v → Value.okWide Tryd.prog W .any base t v := hval0
  have hW' := hW
  obtain ⟨p, q, hA0, hV, rfl, hfz, hnd⟩ := hW
  have hA : DataW.TrodAll enc Tryd.prog W 0 (fun _ => true) true Tryd.f3.params.toList args.toList ds p := hA0
  rw [Tryd.params3] at hA hval
  obtain ⟨v0, v1, d0, d1, p0, p1, rfl, rfl, rfl, h0, h1⟩ := trodAll_two hA
  obtain ⟨rfl, rfl⟩ := trodVars_none hV
  obtain ⟨n, rfl, rfl, rfl, wn⟩ := open_int Tryd.underlying3 (hval 0 3 v0 rfl rfl) h0
  obtain ⟨m, rfl, rfl, rfl, wm⟩ := open_int Tryd.underlying3 (hval 1 3 v1 rfl rfl) h1
  obtain ⟨htab, hsz⟩ := of_laid hL
  clear hA0 hval0
  simp only [List.append_nil] at hW'
  refine (walk n m (bnd wn).1 (bnd wn).2 (bnd wm).1 (bnd wm).2 W 0 g2 hsz htab).mono fun e W' ⟨he, bel⟩ => ?_
  subst he
  exact ⟨_, rfl, _, _, _, [], _, [], hW', trodAll_mk1 (shut_bool Tryd.underlying4 _), trodAll_mk2 (shut_int Tryd.underlying3 wn) (shut_int Tryd.underlying3 wm), rfl, bel.frame _, fun h => by cases h⟩

theorem row_holds : Rows.FnDeltaTSourceStringInjectiveSaid :=
  OpenClaim.holds_of_wide 3 Tryd.f3 rfl rfl rfl rfl rfl rfl rfl ⟨rfl, rfl, rfl, rfl, rfl⟩ rfl rfl rfl rfl rfl (by kernel_rfl) Tryd.func3 (by kernel_rfl)
    (of_decide_eq_true (by kernel_rfl)) (by unfold Func.isWrapper; first | (rw [if_pos (by decide +kernel)]; kernel_rfl) | (rw [if_neg (by decide +kernel)]; exact ⟨rfl, rfl⟩))
    (fun os started H enc _ => lifted os started H enc)

/-- THE TIED CARD -/
theorem card_holds : Rows.FnDeltaTSourceStringInjectiveCardSaid :=
  Claim7.holds_tied_plain_at .later [] [.data, .data, .data] true (true, "7f267806c6cd06627443edce140da374902d62f75f674103770c7cf7473b97d5") false
    row_holds (fun _ h => by cases h) (by kernel_rfl) (fun _ h => by cases h) fnDeltaTSourceStringInjective_row_tie rfl ⟨rfl, rfl⟩ (by kernel_rfl) rfl
    (fun f fn hf hfn => by
      obtain rfl : f = 3 := Option.some.inj ((show Tryd.prog.funcNamed Rows.fnDeltaTSourceStringInjectiveRow.func = some 3 by kernel_rfl).symm.trans hf) |>.symm
      obtain rfl : fn = Tryd.f3 := (Option.some.inj (Tryd.func3.symm.trans hfn)).symm
      exact ⟨by kernel_rfl, fun j t ht => by
        rw [Tryd.params3] at ht
        have hm : t ∈ [3] := by
          have := Array.mem_of_getElem? ht
          simpa using this
        have hall : ([3].all fun u => !Tryd.prog.wantsStandIn u) = true := by kernel_rfl
        exact (show Tryd.prog.wantsStandIn t = false by simpa using List.all_eq_true.1 hall t hm)⟩)
    (by kernel_rfl)

end Go.Proofs.Qxb6604178aDoor.delta
