/-
  zzXWritesInOrder.
-/
import Derived.Test.Qxb6604039aWitMem
namespace Go.Proofs.Qxb6604039a
open Go.RowKit

/-- the writes of x among the first t steps of a row lie in the history's order -/
def OrdRow (S : Nat → Stp) (x : Int) (t : Nat) : Prop := ∀ i j, i < j → j < t → (S i).node = x → (S j).node = x → (S i).sh = false → (S j).sh = false → (S i).pos < (S j).pos

def LastIs (S : Nat → Stp) (x : Int) (t : Nat) (hv : Bool) (last : Int) : Prop :=
  (hv = false ∧ ∀ i, i < t → (S i).node = x → (S i).sh = true) ∨ (hv = true ∧ ∀ i, i < t → (S i).node = x → (S i).sh = false → (S i).pos ≤ last)

theorem LastIs.skip {S : Nat → Stp} {x : Int} {t : Nat} {hv : Bool} {last : Int} (h : LastIs S x t hv last) (hn : (S t).node = x → (S t).sh = true) : LastIs S x (t + 1) hv last := by
  rcases h with ⟨h1, h2⟩ | ⟨h1, h2⟩
  · refine .inl ⟨h1, fun i hi hx => ?_⟩
    by_cases e : i = t
    · subst e; exact hn hx
    · exact h2 i (by omega) hx
  · refine .inr ⟨h1, fun i hi hx hs => ?_⟩
    by_cases e : i = t
    · subst e; rw [hn hx] at hs; cases hs
    · exact h2 i (by omega) hx hs

theorem OrdRow.skip {S : Nat → Stp} {x : Int} {t : Nat} (h : OrdRow S x t) (hn : (S t).node = x → (S t).sh = true) : OrdRow S x (t + 1) := by
  intro i j hij hj h1 h2 h3 h4
  by_cases e : j = t
  · subst e; rw [hn h2] at h4; cases h4
  · exact h i j hij (by omega) h1 h2 h3 h4

theorem LastIs.take {S : Nat → Stp} {x : Int} {t : Nat} {hv : Bool} {last : Int} (h : LastIs S x t hv last) (hl : hv = true → last < (S t).pos) : LastIs S x (t + 1) true (S t).pos := by
  refine .inr ⟨rfl, fun i hi hx hs => ?_⟩
  by_cases e : i = t
  · subst e; exact Int.le_refl _
  · rcases h with ⟨h1, h2⟩ | ⟨h1, h2⟩
    · rw [h2 i (by omega) hx] at hs; cases hs
    · have := h2 i (by omega) hx hs; have := hl h1; omega

theorem OrdRow.take {S : Nat → Stp} {x : Int} {t : Nat} {hv : Bool} {last : Int} (h : OrdRow S x t) (k : LastIs S x t hv last) (hl : hv = true → last < (S t).pos) : OrdRow S x (t + 1) := by
  intro i j hij hj h1 h2 h3 h4
  by_cases e : j = t
  · subst e
    rcases k with ⟨k1, k2⟩ | ⟨k1, k2⟩
    · rw [k2 i hij h1] at h3; cases h3
    · have := k2 i hij h1 h3; have := hl k1; omega
  · exact h i j hij (by omega) h1 h2 h3 h4

theorem box_pos (w : World) (p nd v : Int) (hv : Bool) (ac : Int) (pr : Bool) (t : TypeId) : (w.alloc (.cells #[.int .i64 p, .int .i64 nd, .int .i64 v, .bool hv, .int .u8 ac, .bool pr] t)).cell? ⟨w.heap.size, 0, none⟩ = some (.int .i64 p) := by simp only [World.cell?, Deep.blk_alloc_new]; rfl
theorem box_node (w : World) (p nd v : Int) (hv : Bool) (ac : Int) (pr : Bool) (t : TypeId) : (w.alloc (.cells #[.int .i64 p, .int .i64 nd, .int .i64 v, .bool hv, .int .u8 ac, .bool pr] t)).cell? ⟨w.heap.size, 1, none⟩ = some (.int .i64 nd) := by simp only [World.cell?, Deep.blk_alloc_new]; rfl

set_option maxRecDepth 100000 in
set_option maxHeartbeats 1000000 in
theorem inOrder13 (a : Option Addr) (n k : Nat) (x : Int) (A : Nat → Option Addr) (L C : Nat → Nat) (X : Nat → Nat → Stp) (w : World) (h : LogsAt w a n A L C X) (hb : n ≤ 1048576) (hL : ∀ i, i < n → L i ≤ 1048576) :
    Calls Try.prog 13 #[.slice a n k, .int .i64 x] w fun e w' => Answers (fun r => r = true → ∀ i, i < n → OrdRow (X i) x (L i)) e ∧ Kept Nowhere w w' := by
  have HX : Hid (LogsAt w a n A L C X ∧ ∀ i, i < n → L i ≤ 1048576) := ⟨h, hL⟩
  clear h hL
  go_enter Try.func13, Try.ntmps13
  go_wp2
  go_loopg [5] n (fun gk i wr => ∃ j : Nat, j + gk = n ∧ i = .int .i64 j ∧ Hid (Kept Nowhere w wr ∧ ∀ i, i < j → OrdRow (X i) x (L i)))
  case atStart => exact ⟨0, by omega, rfl, Kept.refl _ _, fun i hi => by omega⟩
  case round =>
    obtain ⟨j, hjk, rfl, HR⟩ := hrel
    by_cases hj : j < n
    · obtain ⟨b, o, rfl, hc⟩ := HX.out.1.1 (by omega)
      have hcj := hc j hj
      have hjI : (j : Int) < (n : Int) := by omega
      have hLj := HX.out.2 j hj
      obtain ⟨aj, ha⟩ : ∃ a, A j = a := ⟨_, rfl⟩
      obtain ⟨l, hl⟩ : ∃ l, L j = l := ⟨_, rfl⟩
      obtain ⟨kj, hk⟩ : ∃ k, C j = k := ⟨_, rfl⟩
      have hrow := HX.out.1.2 j hj
      rw [ha, hl] at hrow
      rw [ha, hl, hk] at hcj
      rw [hl] at hLj
      have HL : Hid (L j = l) := hl
      have HRow : Hid (StepsAt w aj l (X j)) := hrow
      have HC : Hid (w.cell? ⟨b, o + j, none⟩ = some (.slice aj l kj)) := hcj
      obtain ⟨q, rfl⟩ : ∃ q, gk = q + 1 := ⟨gk - 1, by omega⟩
      have hcr : wr.cell? ⟨b, o + j, none⟩ = some (.slice aj l kj) := HR.out.1.nothing_cell (fun _ h => h) hcj
      clear ha hl hk hrow hc hcj
      go_wp2
      go_loopg [6, 7, 8] l (fun ik hv la i wi => ∃ (t : Nat) (hvb : Bool) (last : Int), t + ik = l ∧ hv = .bool hvb ∧ la = .int .i64 last ∧ i = .int .i64 t ∧ Hid (Kept Nowhere w wi ∧ OrdRow (X j) x t ∧ LastIs (X j) x t hvb last))
      case atStart => exact ⟨0, false, 0, by omega, rfl, rfl, rfl, HR.out.1, fun i j hij hj => by omega, .inl ⟨rfl, fun i hi => by omega⟩⟩
      case round =>
        obtain ⟨t, hvb, last, htk, rfl, rfl, rfl, HT⟩ := hrel
        rename World => wi
        have hci : wi.cell? ⟨b, o + j, none⟩ = some (.slice aj l kj) := HT.out.1.nothing_cell (fun _ h => h) HC.out
        by_cases ht : t < l
        · obtain ⟨b2, o2, rfl, hc2⟩ := (HRow.out.kept HT.out.1) (by omega)
          obtain ⟨c0, c1, c2, c3, c4, c5⟩ := hc2 t ht
          have htI : (t : Int) < (l : Int) := by omega
          obtain ⟨s, hs⟩ : ∃ s, X j t = s := ⟨_, rfl⟩
          rw [hs] at c0 c1 c2 c3 c4 c5
          have HS : Hid (X j t = s) := hs
          obtain ⟨q2, rfl⟩ : ∃ q, gk = q + 1 := ⟨gk - 1, by omega⟩
          obtain ⟨p, nd, v, hv, ac, pr⟩ := s
          dsimp only at c0 c1 c2 c3 c4 c5
          clear hs hc2
          by_cases hnx : nd = x
          · subst hnx
            by_cases hsh : Stp.sh ⟨p, nd, v, hv, ac, pr⟩ = true
            · go_wp2_with (go_at_call 17; refine (shared17 ⟨p, nd, v, hv, ac, pr⟩ _).mono ?_; rintro e w1 ⟨rfl, hk1⟩; rw [hsh])
              go_roundg q2
              case measure => omega
              case rel =>
                have hn : (X j t).node = nd → (X j t).sh = true := fun _ => by rw [HS.out]; exact hsh
                exact ⟨t + 1, hvb, last, by omega, rfl, rfl, by go_num, (HT.out.1.alloc _).trans hk1, HT.out.2.1.skip hn, HT.out.2.2.skip hn⟩
            · have hsh' : Stp.sh ⟨p, nd, v, hv, ac, pr⟩ = false := by simpa using hsh
              clear hsh
              by_cases hgo : hvb = true → last < p
              · cases hvb with
                | false =>
                  clear hgo
                  go_wp2_with (go_at_call 17; refine (shared17 ⟨p, nd, v, hv, ac, pr⟩ _).mono ?_; rintro e w1 ⟨rfl, hk1⟩; rw [hsh']; have d0 := hk1.nothing_cell (fun _ h => h) (box_pos wi p nd v hv ac pr 43))
                  go_roundg q2
                  case measure => omega
                  case rel =>
                    have e : (X j t).pos = p := congrArg Stp.pos HS.out
                    have hlt : false = true → last < (X j t).pos := fun h => by cases h
                    exact ⟨t + 1, true, p, by omega, rfl, rfl, by go_num, (HT.out.1.alloc _).trans hk1, HT.out.2.1.take HT.out.2.2 hlt, by rw [← e]; exact HT.out.2.2.take hlt⟩
                | true =>
                  have hlp := hgo rfl
                  clear hgo
                  go_wp2_with (go_at_call 17; refine (shared17 ⟨p, nd, v, hv, ac, pr⟩ _).mono ?_; rintro e w1 ⟨rfl, hk1⟩; rw [hsh']; have d0 := hk1.nothing_cell (fun _ h => h) (box_pos wi p nd v hv ac pr 43))
                  go_roundg q2
                  case measure => omega
                  case rel =>
                    have e : (X j t).pos = p := congrArg Stp.pos HS.out
                    have hlt : true = true → last < (X j t).pos := fun _ => by rw [e]; exact hlp
                    exact ⟨t + 1, true, p, by omega, rfl, rfl, by go_num, (HT.out.1.alloc _).trans hk1, HT.out.2.1.take HT.out.2.2 hlt, by rw [← e]; exact HT.out.2.2.take hlt⟩
              · have hvt : hvb = true := by cases hvb with | true => rfl | false => exact absurd (fun h => by cases h) hgo
                subst hvt
                have hlp : p ≤ last := by
                  have : ¬ last < p := fun h => hgo (fun _ => h)
                  omega
                clear hgo
                go_wp2_with (go_at_call 17; refine (shared17 ⟨p, nd, v, hv, ac, pr⟩ _).mono ?_; rintro e w1 ⟨rfl, hk1⟩; rw [hsh']; have d0 := hk1.nothing_cell (fun _ h => h) (box_pos wi p nd v hv ac pr 43))
                go_ret
                exact ⟨answers rfl (fun h => by cases h), (HT.out.1.alloc _).trans hk1⟩
          · have hnx' : (nd != x) = true := by simp [hnx]
            go_wp2
            go_roundg q2
            case measure => omega
            case rel =>
              have hn : (X j t).node = x → (X j t).sh = true := fun h => by rw [HS.out] at h; exact absurd h hnx
              refine ⟨t + 1, hvb, last, by omega, rfl, rfl, by go_num, ?_, HT.out.2.1.skip hn, HT.out.2.2.skip hn⟩
              exact HT.out.1.alloc _
        · go_wp2
          go_roundg q
          case measure => omega
          case rel =>
            refine ⟨j + 1, by omega, by go_num, HT.out.1, fun i hi => ?_⟩
            by_cases e : i = j
            · subst e
              rw [HL.out]
              obtain rfl : t = l := by omega
              exact HT.out.2.1
            · exact HR.out.2 i (by omega)
    · go_wp2
      go_ret
      exact ⟨answers rfl (fun _ i hi => HR.out.2 i (by omega)), HR.out.1⟩
end Go.Proofs.Qxb6604039a
