/-
  firstMultiplier.
-/
import Derived.Test.Qxb6604040aDoorPlace
namespace Go.Proofs.Qxb6604040aDoor
open Go.RowKit

/-- the multipliers, in their fixed order -/
def mulT : Nat → Int
  | 0 => 11400714819323198485
  | t + 1 => IntKind.u64.wrap (mulT t + 7146057691288625178)
/-- t is the first try whose multiplier serves -/
def First (P : Int → Prop) (t : Nat) : Prop := t ≤ 65536 ∧ P (mulT t) ∧ ∀ t', t' < t → ¬ P (mulT t')
theorem First.same {P : Int → Prop} {t t' : Nat} (h : First P t) (h' : First P t') : t = t' := by
  rcases Nat.lt_trichotomy t t' with e | e | e
  · exact absurd h.2.1 (h'.2.2 t e)
  · exact e
  · exact absurd h'.2.1 (h.2.2 t' e)

def Serves (n : Nat) (W : Nat → ByteArray) (K : Nat → Int) (m : Int) : Prop := Apart (fun i => slotI (K i) (W i).size m) n

set_option maxRecDepth 100000 in
set_option maxHeartbeats 400000 in
theorem first22 (aw ak : Option Addr) (n kw kk : Nat) (W : Nat → ByteArray) (K : Nat → Int) (w : World) (hw : StrsAt w aw n W) (hk : KeysAt w ak n K) (hb : n ≤ 1048576) :
    Calls Tryd.prog 22 #[.slice aw n kw, .slice ak n kk] w fun e w' => ((∃ t, First (Serves n W K) t ∧ e = .returned (.tuple #[.int .u64 (mulT t), .bool true])) ∨ (∃ m, e = .returned (.tuple #[.int .u64 m, .bool false]))) ∧ Kept Nowhere w w' := by
  have HW : Hid (StrsAt w aw n W ∧ KeysAt w ak n K) := ⟨hw, hk⟩
  clear hw hk
  go_enter Tryd.func22, Tryd.ntmps22
  go_wp2
  go_loopg [6, 7] 65537 (fun gk v6 v7 wr => ∃ (t : Nat) (m : Int), t + gk = 65537 ∧ v6 = .int .u64 m ∧ v7 = .int .i64 t ∧ Hid (m = mulT t ∧ Kept Nowhere w wr ∧ ∀ t', t' < t → ¬ Serves n W K (mulT t')))
  case atStart => exact ⟨0, _, by omega, rfl, rfl, rfl, Kept.refl _ _, fun t' h => by omega⟩
  case round =>
    obtain ⟨t, m, htk, rfl, rfl, HR⟩ := hrel
    by_cases ht : t ≤ 65536
    · have htI : (t : Int) ≤ 65536 := by omega
      obtain ⟨q, rfl⟩ : ∃ q, gk = q + 1 := ⟨gk - 1, by omega⟩
      have HC : Hid (Calls Tryd.prog 30 _ wr _) := placeable30 aw ak n kw kk m W K wr (HW.out.1.kept HR.out.2.1) (HW.out.2.kept HR.out.2.1) hb
      go_wp2_with (go_at_call 30; refine HC.out.mono ?_; rintro e w1 ⟨⟨r, rfl, hr⟩, hk1⟩; cases r)
      · go_roundg q
        case measure => omega
        case rel =>
          refine ⟨t + 1, _, by omega, rfl, by go_num, by rw [HR.out.1]; rfl, HR.out.2.1.trans hk1, fun t' h => ?_⟩
          by_cases e : t' = t
          · subst e; rw [← HR.out.1]; intro hs
            first
              | exact Bool.noConfusion (hr.2 hs)
              | exact hr hs
              | simp at hr; exact hr hs
          · exact HR.out.2.2 t' (by omega)
      · have hs : Serves n W K m := by first | exact hr.1 rfl | exact hr | (simp at hr; exact hr)
        refine bodyPost_ret (v := .tuple #[.int .u64 m, .bool true]) (by simp [results, Tryd.results22, go_sem]) rfl ⟨.inl ⟨t, ⟨ht, by rw [← HR.out.1]; exact hs, HR.out.2.2⟩, by rw [← HR.out.1]⟩, HR.out.2.1.trans hk1⟩
    · have htI : decide ((t : Int) ≤ 65536) = false := by simp; omega
      go_wp2
      exact bodyPost_ret (v := .tuple #[.int .u64 0, .bool false]) (by simp [results, Tryd.results22, go_sem]) rfl ⟨.inr ⟨0, rfl⟩, HR.out.2.1⟩
end Go.Proofs.Qxb6604040aDoor
