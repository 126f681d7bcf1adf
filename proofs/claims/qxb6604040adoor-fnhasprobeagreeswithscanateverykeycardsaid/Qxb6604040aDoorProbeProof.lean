/-
  THE ROW AND THE TIED CARD of FnHasProbeAgreesWithScanAtEveryKey. The frame is after the guide's MapyProofs, MapyCard.
-/
import Derived.Test.Qxb6604040aDoorCards
import Derived.Test.Qxb6604040aDoorTie
import Derived.Test.Qxb6604040aDoorLaws
import Derived.ProofKit
import Derived.LaidMore
import Derived.OpenShut
import Derived.ChangeMaps5
import Derived.Stop.Joined
import Derived.SevenTiedAt
namespace Go.Proofs.Qxb6604040aDoor.hasProbe
open Go.ChangeShapes Go.WideShapes Go.ChangeAt Go.RowKit
open Go.ChangeMaps (open_string shut_string)

theorem own : ownKnob Tryd.prog.godebug = none := by kernel_rfl
theorem g2 : Tryd.prog.globalNamed "strings.asciiSpace" = some 0 := by kernel_rfl
theorem t2 : (Tryd.prog.globals[0]?).map (·.type) = some 54 := by kernel_rfl

set_option maxRecDepth 100000 in
theorem door_met (os : Os) (args : Array Value) : laidMetH Tryd.prog Rows.fnHasProbeAgreesWithScanAtEveryKeyRow.laid ((World.doorLaid Tryd.prog 400 os).forCall (fun _ _ => 0) ⟨#[], args, []⟩).memory :=
  laidMetH_of_parts3 (fuel := 8) (laidMet_of_run' 8 (by kernel_rfl) (by kernel_rfl)) (by kernel_rfl) (by kernel_rfl)

theorem tab_eq : (Rows.laid_strings_asciiSpace : DataW Unit) = Lib.tabData .u8 Lib.asciiSpaceTab := by kernel_rfl

set_option maxRecDepth 100000 in
/-- WHAT THE CONDITION GIVES THE WALK: the library's table of white space. -/
theorem of_laid {W : World} (h : laidMetH Tryd.prog Rows.fnHasProbeAgreesWithScanAtEveryKeyRow.laid W) : TabKept W := by
  rw [MakeChecks.laidMetH_plain _ _ _ (by kernel_rfl)] at h
  obtain ⟨ps, ⟨_, _, _, _, _, _, _, _, _, _, ⟨g, t, cs, fuel, p, q, hg, ht, hvar, hd, _, _⟩, _⟩, _, _⟩ := h
  obtain rfl := Option.some.inj (g2.symm.trans hg)
  obtain rfl := Option.some.inj (t2.symm.trans ht)
  have hd' : DataW.trod (fun _ : TypeId × Value => ()) Tryd.prog W 0 (fun _ => true) false fuel 54 cs.toList = some (Lib.tabData .u8 Lib.asciiSpaceTab, p) := by rw [← tab_eq]; exact hd
  have hcs := Lib.cells_of_tab Tryd.underlying54 Tryd.underlying5 (by kernel_rfl) (by kernel_rfl) hd'
  have htab : Lib.TabIs Tryd.prog W "strings.asciiSpace" .u8 Lib.asciiSpaceTab := by
    unfold Lib.TabIs
    have hvar' : W.var? Tryd.prog "strings.asciiSpace" = some cs := hvar
    rw [hvar', ← hcs]
  have hsz : 0 < W.heap.size := by
    have hc := World.var?_cell g2 hvar 0
    have hl : 0 < cs.size := by
      have h2 := congrArg List.length hcs
      simp [Lib.asciiSpaceTab_length] at h2
      omega
    obtain ⟨v, hv⟩ : ∃ v, W.cell? ⟨0, 0, none⟩ = some v := ⟨_, by rw [hc]; exact Array.getElem?_eq_getElem hl⟩
    exact World.block_lt_of_cell? W _ hv
  intro w' k
  unfold Lib.TabIs at *
  rw [← htab]
  simp only [World.var?, g2, Option.bind_some, k.block 0 hsz (fun h => h)]

set_option maxRecDepth 100000 in
theorem lifted (os : Os) (started : os.Started) (H : Type) (enc : TypeId × Value → H) :
    ReturnsInHanded {} Tryd.checked os 4 .any (fun w args => (Rows.fnHasProbeAgreesWithScanAtEveryKeySpec.pre enc Tryd.prog Tryd.f4 [] false w args ∧ laidMetH Tryd.prog Rows.fnHasProbeAgreesWithScanAtEveryKeyRow.laid w) ∧ sizedMet enc Tryd.prog Tryd.f4 (OpenSpec.ofChange Rows.fnHasProbeAgreesWithScanAtEveryKeySpec) false w args)
      (Rows.fnHasProbeAgreesWithScanAtEveryKeySpec.post enc Tryd.prog Tryd.f4 false true false false) := by
  refine returnsInHanded_of_change_and (C := Tryd.checked) (X := fun w _ => laidMetH Tryd.prog Rows.fnHasProbeAgreesWithScanAtEveryKeyRow.laid w) (fun _ _ _ hh h => h.of_heap hh) own started (by kernel_rfl) Tryd.func4
    (ChangeSpec.witness_shaped (enc := enc) (C := Tryd.checked) (os := os) (X := fun w _ => laidMetH Tryd.prog Rows.fnHasProbeAgreesWithScanAtEveryKeyRow.laid w) false (World.doorLaid Tryd.prog 400 os) #[.string ByteArray.empty, .int .u64 0, .string ByteArray.empty] 8 rfl (World.shaped_of_RefB (by kernel_rfl) (by kernel_rfl)) (by kernel_rfl) (by kernel_rfl) (by kernel_rfl) (door_met os _)) ?_
  intro W base args ds gs before hval0 hW _ _ hL _
  have hval : ∀ (j : Nat) t v, Tryd.f4.params[j]? = some t → args[j]? = some v → Value.okWide Tryd.prog W .any base t v := hval0
  have hW' := hW
  obtain ⟨p, q, hA0, hV, rfl, hfz, hnd⟩ := hW
  have hA : DataW.TrodAll enc Tryd.prog W 0 (fun _ => true) true Tryd.f4.params.toList args.toList ds p := hA0
  rw [Tryd.params4] at hA hval
  obtain ⟨v0, v1, v2, d0, d1, d2, p0, p1, p2, rfl, rfl, rfl, h0, h1, h2⟩ := trodAll_three hA
  obtain ⟨rfl, rfl⟩ := trodVars_none hV
  obtain ⟨a0, rfl, rfl, rfl, w0⟩ := open_string Tryd.underlying9 (hval 0 9 v0 rfl rfl) h0
  obtain ⟨a1, rfl, rfl, rfl, w1⟩ := open_int Tryd.underlying25 (hval 1 25 v1 rfl rfl) h1
  obtain ⟨a2, rfl, rfl, rfl, w2⟩ := open_string Tryd.underlying9 (hval 2 9 v2 rfl rfl) h2
  have htab := of_laid hL
  clear hA0 hval0
  simp only [List.append_nil] at hW'
  refine (probe4 a0 a2 a1 W htab).mono fun e W' ⟨he, hk⟩ => ?_
  have bel : Below W.heap.size W W' := hk.below (Nat.le_refl _) (fun _ _ h => h.elim)
  subst he
  exact ⟨_, rfl, _, _, _, [], _, [], hW', trodAll_mk1 (shut_bool Tryd.underlying4 _), trodAll_mk3 (shut_string Tryd.underlying9 w0) (shut_int Tryd.underlying25 w1) (shut_string Tryd.underlying9 w2), rfl, bel.frame _, fun h => by cases h⟩

theorem row_holds : Rows.FnHasProbeAgreesWithScanAtEveryKeySaid :=
  OpenClaim.holds_of_wide 4 Tryd.f4 rfl rfl rfl rfl rfl rfl rfl ⟨rfl, rfl, rfl, rfl, rfl⟩ rfl rfl rfl rfl rfl (by kernel_rfl) Tryd.func4 (by kernel_rfl)
    (of_decide_eq_true (by kernel_rfl)) (by unfold Func.isWrapper; first | (rw [if_pos (by decide +kernel)]; kernel_rfl) | (rw [if_neg (by decide +kernel)]; exact ⟨rfl, rfl⟩))
    (fun os started H enc _ => lifted os started H enc)

/-- THE TIED CARD -/
theorem card_holds : Rows.FnHasProbeAgreesWithScanAtEveryKeyCardSaid :=
  Claim7.holds_tied_plain_at .later [] [.listed, .data] true (true, "885455a491ee57efc27d76c1a8eae3ffa73fc474b2a7cbf3fd1c939f01c274e5") false
    row_holds (fun _ h => by cases h) (by kernel_rfl) (fun _ h => by cases h) fnHasProbeAgreesWithScanAtEveryKey_row_tie rfl ⟨rfl, rfl⟩ (by kernel_rfl) rfl
    (fun f fn hf hfn => by
      obtain rfl : f = 4 := Option.some.inj ((show Tryd.prog.funcNamed Rows.fnHasProbeAgreesWithScanAtEveryKeyRow.func = some 4 by kernel_rfl).symm.trans hf) |>.symm
      obtain rfl : fn = Tryd.f4 := (Option.some.inj (Tryd.func4.symm.trans hfn)).symm
      exact ⟨by kernel_rfl, fun j t ht => by
        rw [Tryd.params4] at ht
        have hm : t ∈ [9, 25, 9] := by
          have := Array.mem_of_getElem? ht
          simpa using this
        have hall : ([9, 25, 9].all fun u => !Tryd.prog.wantsStandIn u) = true := by kernel_rfl
        exact (show Tryd.prog.wantsStandIn t = false by simpa using List.all_eq_true.1 hall t hm)⟩)
    (by kernel_rfl)
end Go.Proofs.Qxb6604040aDoor.hasProbe
