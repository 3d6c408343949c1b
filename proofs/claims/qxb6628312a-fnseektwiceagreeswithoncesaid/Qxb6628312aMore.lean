import Derived.Test.Qxb6628312aRows
import Derived.Test.Qxb6628312aState
import Derived.WalkSpells
import Derived.Deep.LoopGhost
import Derived.Deep.QuietTactic
import Derived.BigQuiet
namespace Go.Proofs.Qxb6628312a
open Go.RowKit Go.Deep

/-- What (*Scanner).more leaves: the next part that holds anything, or the end of the text. -/
def MoreTrue (w w' : World) (S G n : Nat) (A : Nat → Option Addr) (g L : Nat → Nat) (X : Nat → Int) (lg : Bool) (j BL base : Nat) (lines depth : Int) : Prop :=
  Keep S G w w' ∧ ∃ j' PA' BA' BL', j < j' ∧ St w' S G n A g L X lg j' PA' BA' BL' (base + BL) 0 0 lines depth
def MoreFalse (w w' : World) (S G n : Nat) (A : Nat → Option Addr) (g L : Nat → Nat) (X : Nat → Int) (lg : Bool) (BA : Option Addr) (BL base : Nat) (lines depth : Int) : Prop :=
  Keep S G w w' ∧ ∃ PA', St w' S G n A g L X lg n PA' BA BL base BL BL lines depth
def More (e : Ending) (w w' : World) (S G n : Nat) (A : Nat → Option Addr) (g L : Nat → Nat) (X : Nat → Int) (lg : Bool) (j : Nat) (BA : Option Addr) (BL base : Nat) (lines depth : Int) : Prop :=
  (e = .returned (.bool true) ∧ MoreTrue w w' S G n A g L X lg j BL base lines depth) ∨ (e = .returned (.bool false) ∧ MoreFalse w w' S G n A g L X lg BA BL base lines depth)

theorem more_true_of {w w' W : World} {S G n : Nat} {A : Nat → Option Addr} {g L : Nat → Nat} {X : Nat → Int} {lg : Bool} {j j' : Nat} {PA' BA BA' : Option Addr} {BL BL' base : Nat} {lines depth : Int}
    (hK : Keep S G w W) (hj : j < j') (hS : St W S G n A g L X lg j' PA' BA' BL' (base + BL) 0 0 lines depth) (s : Sim w' W) : More (.returned (.bool true)) w w' S G n A g L X lg j BA BL base lines depth :=
  Or.inl ⟨rfl, hK.sim s, j', PA', BA', BL', hj, hS.sim s⟩

set_option maxHeartbeats 1600000 in
set_option maxRecDepth 100000 in
theorem more_any (S G n : Nat) (A : Nat → Option Addr) (g L : Nat → Nat) (X : Nat → Int) (lg : Bool) (j : Nat) (PA BA : Option Addr) (BL base : Nat) (lines depth : Int) (w : World) (hn : n ≤ 1048576) (hP : psum L n ≤ 1048576)
    (hS : St w S G n A g L X lg j PA BA BL base BL BL lines depth) :
    Calls Try.prog 12 #[.pointer (some ⟨S, 0, none⟩)] w fun e w' => More e w w' S G n A g L X lg j BA BL base lines depth := by
  go_enter Try.func12, Try.ntmps12
  go_wp2
  go_loopg [] (n - j) (fun k wr => ∃ j' PA', j ≤ j' ∧ k = n - j' ∧ Keep S G w wr ∧ St wr S G n A g L X lg j' PA' BA BL base BL BL lines depth)
  case atStart => exact ⟨j, PA, Nat.le_refl _, rfl, Keep.refl _ _ _, hS⟩
  case round =>
    obtain ⟨j', PA', hj, rfl, hK, hT⟩ := hrel
    clear hS
    obtain ⟨c0, c1, c2, c3, c4, c5, c6, c7, hf⟩ := hT.cells
    by_cases hlt : j' < n
    · have e := hT.pa hlt
      subst e
      obtain ⟨t1, t2⟩ := hT.own.top j' (Nat.le_refl _) hlt
      have hne := hT.own.ne (by omega)
      have HT : Hid (St wr S G n A g L X lg j' (some ⟨G, j', none⟩) BA BL base BL BL lines depth) := hT
      have HK : Hid (Keep S G w wr) := hK
      clear hT hK
      have f0 := hf 0
      have f2 := hf 2
      have f3 := hf 3
      have f4 := hf 4
      have f5 := hf 5
      clear hf
      have hnj : ¬ ((n : Int) - j' = 0) := by omega
      have hsum := HT.out.sum
      have hpp := psum_part L hlt
      have hbuf := HT.out.bufAt
      by_cases hL : L j' = 0
      · have hL' : ((L j' : Int) == 0) = true := by simp [hL]
        clear hbuf
        cases lg with
        | true =>
          by_cases hlast : n - j' = 1
          · go_wp2
            go_roundg (n - (j' + 1))
            case measure => omega
            case rel => exact ⟨j' + 1, _, by omega, rfl, (HK.out.setG _ _).setS _ _, st_letgo HT.out hlt _ _ 0 (by omega) (fun h => by omega) hL⟩
          · go_wp2
            go_roundg (n - (j' + 1))
            case measure => omega
            case rel => exact ⟨j' + 1, _, by omega, rfl, (HK.out.setG _ _).setS _ _, st_letgo HT.out hlt _ _ (n - j' - 1) (by omega) (fun _ => rfl) hL⟩
        | false =>
          by_cases hlast : n - j' = 1
          · go_wp2
            go_roundg (n - (j' + 1))
            case measure => omega
            case rel => exact ⟨j' + 1, _, by omega, rfl, HK.out.setS _ _, st_skip HT.out hlt hL _ 0 (by omega) (fun h => by omega)⟩
          · go_wp2
            go_roundg (n - (j' + 1))
            case measure => omega
            case rel => exact ⟨j' + 1, _, by omega, rfl, HK.out.setS _ _, st_skip HT.out hlt hL _ (n - j' - 1) (by omega) (fun _ => rfl)⟩
      · have hL' : ((L j' : Int) == 0) = false := by simp [hL]
        cases lg with
        | true =>
          by_cases hlast : n - j' = 1
          · rcases hbuf with ⟨rfl, rfl⟩ | ⟨bb, rfl, hb1, hb2, hb3⟩
            · have HM : Hid (∀ w', Sim w' ((((((wr.setCell ⟨G, j', none⟩ (.slice none 0 0)).setCell ⟨S, 0, none⟩ (.slice (some ⟨G, j', none⟩) 0 0)).setCell ⟨S, 5, none⟩ (.int .i64 base)).setCell ⟨S, 3, none⟩ (.int .i64 0)).setCell ⟨S, 4, none⟩ (.int .i64 0)).setCell ⟨S, 2, none⟩ (.slice (A j') (L j') (L j'))) → More (.returned (.bool true)) w w' S G n A g L X true j none 0 base lines depth) := fun w' s => more_true_of ((((((HK.out.setG _ _).setS _ _).setS _ _).setS _ _).setS _ _).setS _ _) (by omega) (st_letgo_take HT.out hlt (by omega) _ (some ⟨G, j', none⟩) 0 (by omega) base (by omega) (fun h => by first | rfl | omega)) s
              clear HT HK
              go_wp2
              go_quiet (fail)
              go_wp2
              go_region
              go_wp2
              go_region
              go_wp2
              go_ret
              exact HM.out _ (by repeat' (with_reducible first | exact Sim.refl _ | refine Sim.drew ?_ | refine Sim.drewN ?_ _ | refine Sim.setCell ?_ _ _))
            · clear hb1 hb2 hb3
              have HM : Hid (∀ w', Sim w' ((((((wr.setCell ⟨G, j', none⟩ (.slice none 0 0)).setCell ⟨S, 0, none⟩ (.slice (some ⟨G, j', none⟩) 0 0)).setCell ⟨S, 5, none⟩ (.int .i64 (base + BL))).setCell ⟨S, 3, none⟩ (.int .i64 0)).setCell ⟨S, 4, none⟩ (.int .i64 0)).setCell ⟨S, 2, none⟩ (.slice (A j') (L j') (L j'))) → More (.returned (.bool true)) w w' S G n A g L X true j (some ⟨bb, 0, none⟩) BL base lines depth) := fun w' s => more_true_of ((((((HK.out.setG _ _).setS _ _).setS _ _).setS _ _).setS _ _).setS _ _) (by omega) (st_letgo_take HT.out hlt (by omega) _ (some ⟨G, j', none⟩) 0 (by omega) (base + BL) (by omega) (fun h => by first | rfl | omega)) s
              clear HT HK
              go_wp2
              go_quiet (fail)
              go_wp2
              go_region
              go_wp2
              go_region
              go_wp2
              go_ret
              exact HM.out _ (by repeat' (with_reducible first | exact Sim.refl _ | refine Sim.drew ?_ | refine Sim.drewN ?_ _ | refine Sim.setCell ?_ _ _))
          · rcases hbuf with ⟨rfl, rfl⟩ | ⟨bb, rfl, hb1, hb2, hb3⟩
            · have HM : Hid (∀ w', Sim w' ((((((wr.setCell ⟨G, j', none⟩ (.slice none 0 0)).setCell ⟨S, 0, none⟩ (.slice (some ⟨G, j' + 1, none⟩) (n - j' - 1) (n - j' - 1))).setCell ⟨S, 5, none⟩ (.int .i64 base)).setCell ⟨S, 3, none⟩ (.int .i64 0)).setCell ⟨S, 4, none⟩ (.int .i64 0)).setCell ⟨S, 2, none⟩ (.slice (A j') (L j') (L j'))) → More (.returned (.bool true)) w w' S G n A g L X true j none 0 base lines depth) := fun w' s => more_true_of ((((((HK.out.setG _ _).setS _ _).setS _ _).setS _ _).setS _ _).setS _ _) (by omega) (st_letgo_take HT.out hlt (by omega) _ (some ⟨G, j' + 1, none⟩) (n - j' - 1) (by omega) base (by omega) (fun h => by first | rfl | omega)) s
              clear HT HK
              go_wp2
              go_quiet (fail)
              go_wp2
              go_region
              go_wp2
              go_region
              go_wp2
              go_ret
              exact HM.out _ (by repeat' (with_reducible first | exact Sim.refl _ | refine Sim.drew ?_ | refine Sim.drewN ?_ _ | refine Sim.setCell ?_ _ _))
            · clear hb1 hb2 hb3
              have HM : Hid (∀ w', Sim w' ((((((wr.setCell ⟨G, j', none⟩ (.slice none 0 0)).setCell ⟨S, 0, none⟩ (.slice (some ⟨G, j' + 1, none⟩) (n - j' - 1) (n - j' - 1))).setCell ⟨S, 5, none⟩ (.int .i64 (base + BL))).setCell ⟨S, 3, none⟩ (.int .i64 0)).setCell ⟨S, 4, none⟩ (.int .i64 0)).setCell ⟨S, 2, none⟩ (.slice (A j') (L j') (L j'))) → More (.returned (.bool true)) w w' S G n A g L X true j (some ⟨bb, 0, none⟩) BL base lines depth) := fun w' s => more_true_of ((((((HK.out.setG _ _).setS _ _).setS _ _).setS _ _).setS _ _).setS _ _) (by omega) (st_letgo_take HT.out hlt (by omega) _ (some ⟨G, j' + 1, none⟩) (n - j' - 1) (by omega) (base + BL) (by omega) (fun h => by first | rfl | omega)) s
              clear HT HK
              go_wp2
              go_quiet (fail)
              go_wp2
              go_region
              go_wp2
              go_region
              go_wp2
              go_ret
              exact HM.out _ (by repeat' (with_reducible first | exact Sim.refl _ | refine Sim.drew ?_ | refine Sim.drewN ?_ _ | refine Sim.setCell ?_ _ _))
        | false =>
          by_cases hlast : n - j' = 1
          · rcases hbuf with ⟨rfl, rfl⟩ | ⟨bb, rfl, hb1, hb2, hb3⟩
            · have HM : Hid (∀ w', Sim w' (((((wr.setCell ⟨S, 0, none⟩ (.slice (some ⟨G, j', none⟩) 0 0)).setCell ⟨S, 5, none⟩ (.int .i64 base)).setCell ⟨S, 3, none⟩ (.int .i64 0)).setCell ⟨S, 4, none⟩ (.int .i64 0)).setCell ⟨S, 2, none⟩ (.slice (A j') (L j') (L j'))) → More (.returned (.bool true)) w w' S G n A g L X false j none 0 base lines depth) := fun w' s => more_true_of (((((HK.out.setS _ _).setS _ _).setS _ _).setS _ _).setS _ _) (by omega) (st_take HT.out hlt (by omega) (some ⟨G, j', none⟩) 0 (by omega) base (by omega) (fun h => by first | rfl | omega)) s
              clear HT HK
              go_wp2
              go_quiet (fail)
              go_wp2
              go_region
              go_wp2
              go_region
              go_wp2
              go_ret
              exact HM.out _ (by repeat' (with_reducible first | exact Sim.refl _ | refine Sim.drew ?_ | refine Sim.drewN ?_ _ | refine Sim.setCell ?_ _ _))
            · clear hb1 hb2 hb3
              have HM : Hid (∀ w', Sim w' (((((wr.setCell ⟨S, 0, none⟩ (.slice (some ⟨G, j', none⟩) 0 0)).setCell ⟨S, 5, none⟩ (.int .i64 (base + BL))).setCell ⟨S, 3, none⟩ (.int .i64 0)).setCell ⟨S, 4, none⟩ (.int .i64 0)).setCell ⟨S, 2, none⟩ (.slice (A j') (L j') (L j'))) → More (.returned (.bool true)) w w' S G n A g L X false j (some ⟨bb, 0, none⟩) BL base lines depth) := fun w' s => more_true_of (((((HK.out.setS _ _).setS _ _).setS _ _).setS _ _).setS _ _) (by omega) (st_take HT.out hlt (by omega) (some ⟨G, j', none⟩) 0 (by omega) (base + BL) (by omega) (fun h => by first | rfl | omega)) s
              clear HT HK
              go_wp2
              go_quiet (fail)
              go_wp2
              go_region
              go_wp2
              go_region
              go_wp2
              go_ret
              exact HM.out _ (by repeat' (with_reducible first | exact Sim.refl _ | refine Sim.drew ?_ | refine Sim.drewN ?_ _ | refine Sim.setCell ?_ _ _))
          · rcases hbuf with ⟨rfl, rfl⟩ | ⟨bb, rfl, hb1, hb2, hb3⟩
            · have HM : Hid (∀ w', Sim w' (((((wr.setCell ⟨S, 0, none⟩ (.slice (some ⟨G, j' + 1, none⟩) (n - j' - 1) (n - j' - 1))).setCell ⟨S, 5, none⟩ (.int .i64 base)).setCell ⟨S, 3, none⟩ (.int .i64 0)).setCell ⟨S, 4, none⟩ (.int .i64 0)).setCell ⟨S, 2, none⟩ (.slice (A j') (L j') (L j'))) → More (.returned (.bool true)) w w' S G n A g L X false j none 0 base lines depth) := fun w' s => more_true_of (((((HK.out.setS _ _).setS _ _).setS _ _).setS _ _).setS _ _) (by omega) (st_take HT.out hlt (by omega) (some ⟨G, j' + 1, none⟩) (n - j' - 1) (by omega) base (by omega) (fun h => by first | rfl | omega)) s
              clear HT HK
              go_wp2
              go_quiet (fail)
              go_wp2
              go_region
              go_wp2
              go_region
              go_wp2
              go_ret
              exact HM.out _ (by repeat' (with_reducible first | exact Sim.refl _ | refine Sim.drew ?_ | refine Sim.drewN ?_ _ | refine Sim.setCell ?_ _ _))
            · clear hb1 hb2 hb3
              have HM : Hid (∀ w', Sim w' (((((wr.setCell ⟨S, 0, none⟩ (.slice (some ⟨G, j' + 1, none⟩) (n - j' - 1) (n - j' - 1))).setCell ⟨S, 5, none⟩ (.int .i64 (base + BL))).setCell ⟨S, 3, none⟩ (.int .i64 0)).setCell ⟨S, 4, none⟩ (.int .i64 0)).setCell ⟨S, 2, none⟩ (.slice (A j') (L j') (L j'))) → More (.returned (.bool true)) w w' S G n A g L X false j (some ⟨bb, 0, none⟩) BL base lines depth) := fun w' s => more_true_of (((((HK.out.setS _ _).setS _ _).setS _ _).setS _ _).setS _ _) (by omega) (st_take HT.out hlt (by omega) (some ⟨G, j' + 1, none⟩) (n - j' - 1) (by omega) (base + BL) (by omega) (fun h => by first | rfl | omega)) s
              clear HT HK
              go_wp2
              go_quiet (fail)
              go_wp2
              go_region
              go_wp2
              go_region
              go_wp2
              go_ret
              exact HM.out _ (by repeat' (with_reducible first | exact Sim.refl _ | refine Sim.drew ?_ | refine Sim.drewN ?_ _ | refine Sim.setCell ?_ _ _))
    · obtain rfl : j' = n := by have := hT.jn; omega
      have HT : Hid (More (.returned (.bool false)) w wr S G j' A g L X lg j BA BL base lines depth) := Or.inr ⟨rfl, hK, PA', hT⟩
      clear hT hK c1 c2 c3 c4 c5 c6 c7 hf
      simp only [Nat.sub_self] at c0
      go_wp2
      go_ret
      exact HT.out
end Go.Proofs.Qxb6628312a
