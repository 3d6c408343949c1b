import Derived.Test.Qxb6628312aMore
namespace Go.Proofs.Qxb6628312a
open Go.RowKit Go.Deep

/-- Where Seek leaves the Scanner. -/
def Sought (w w' : World) (S G n : Nat) (A : Nat → Option Addr) (g L : Nat → Nat) (X : Nat → Int) (lg : Bool) (want : Nat) (lines depth : Int) : Prop :=
  Keep S G w w' ∧ ∃ j PA BA BL base p, St w' S G n A g L X lg j PA BA BL base (p : Nat) (p : Nat) lines depth ∧ p ≤ BL ∧ base + p = want

/-- What 'more' leaves, said from an elder world on; a cell elsewhere stays. -/
def MoreQ (e : Ending) (w w' : World) (S G n : Nat) (A : Nat → Option Addr) (g L : Nat → Nat) (X : Nat → Int) (lg : Bool) (j : Nat) (BA : Option Addr) (BL base : Nat) (lines depth : Int) (Q : Nat) (v : Value) : Prop :=
  More e w w' S G n A g L X lg j BA BL base lines depth ∧ w'.cell? ⟨Q, 0, none⟩ = some v

theorem more_q (S G n : Nat) (A : Nat → Option Addr) (g L : Nat → Nat) (X : Nat → Int) (lg : Bool) (j : Nat) (PA BA : Option Addr) (BL base : Nat) (lines depth : Int) (w W : World) (Q : Nat) (v : Value) (hn : n ≤ 1048576) (hP : psum L n ≤ 1048576)
    (hS : St W S G n A g L X lg j PA BA BL base BL BL lines depth) (hK : Keep S G w W) (hq : W.cell? ⟨Q, 0, none⟩ = some v) (h1 : Q ≠ S) (h2 : Q ≠ G) :
    Calls Try.prog 12 #[.pointer (some ⟨S, 0, none⟩)] W fun e w' => MoreQ e w w' S G n A g L X lg j BA BL base lines depth Q v := by
  refine (more_any S G n A g L X lg j PA BA BL base lines depth W hn hP hS).mono ?_
  intro e w' hM
  have hqlt : Q < W.heap.size := World.block_lt_of_cell? _ _ hq
  rcases hM with ⟨rfl, hK2, h⟩ | ⟨rfl, hK2, h⟩
  · exact ⟨Or.inl ⟨rfl, hK.trans hK2, h⟩, (World.cell?_of_block (w := W) (hK2.block _ hqlt h1 h2)).trans hq⟩
  · exact ⟨Or.inr ⟨rfl, hK.trans hK2, h⟩, (World.cell?_of_block (w := W) (hK2.block _ hqlt h1 h2)).trans hq⟩

theorem sought_end {w wr : World} {S G n : Nat} {A : Nat → Option Addr} {g L : Nat → Nat} {X : Nat → Int} {lg : Bool} {j : Nat} {PA BA : Option Addr} {BL base off : Nat} {pos mark lines depth : Int}
    (hK : Keep S G w wr) (hT : St wr S G n A g L X lg j PA BA BL base pos mark lines depth) (h1 : base ≤ off) (h2 : ¬ base + BL < off) (w1 : World)
    (s : Sim w1 ((wr.setCell ⟨S, 3, none⟩ (.int .i64 ((off : Int) - base))).setCell ⟨S, 4, none⟩ (.int .i64 ((off : Int) - base)))) : Sought w w1 S G n A g L X lg (min off (psum L n)) lines depth := by
  have e : ((off : Int) - base) = ((off - base : Nat) : Int) := by omega
  have hle := st_base_le hT
  refine ⟨((hK.setS 3 _).setS 4 _).sim s, j, PA, BA, BL, base, off - base, ?_, by omega, by omega⟩
  rw [← e]
  exact (st_pm hT _ _).sim s

theorem seek_pre {w wr : World} {S G n : Nat} {A : Nat → Option Addr} {g L : Nat → Nat} {X : Nat → Int} {lg : Bool} {j : Nat} {PA BA : Option Addr} {BL base Q : Nat} {pos mark lines depth : Int} {v : Value}
    (hK : Keep S G w wr) (hT : St wr S G n A g L X lg j PA BA BL base pos mark lines depth) (hq : wr.cell? ⟨Q, 0, none⟩ = some v) (h1 : Q ≠ S) (w1 : World)
    (s : Sim w1 ((wr.setCell ⟨S, 3, none⟩ (.int .i64 BL)).setCell ⟨S, 4, none⟩ (.int .i64 BL))) :
    St w1 S G n A g L X lg j PA BA BL base BL BL lines depth ∧ Keep S G w w1 ∧ w1.cell? ⟨Q, 0, none⟩ = some v := by
  refine ⟨(st_pm hT _ _).sim s, ((hK.setS 3 _).setS 4 _).sim s, ?_⟩
  rw [World.cell?_of_block (w := wr) (by rw [s.heap, Below.heap_setCell _ _ _ _ h1, Below.heap_setCell _ _ _ _ h1])]
  exact hq

set_option maxHeartbeats 1600000 in
set_option maxRecDepth 100000 in
theorem seek_any (S G n : Nat) (A : Nat → Option Addr) (g L : Nat → Nat) (X : Nat → Int) (lg : Bool) (j : Nat) (PA BA : Option Addr) (BL base off : Nat) (pos mark lines depth line depth' : Int) (w : World) (hn : n ≤ 1048576) (hP : psum L n ≤ 1048576)
    (hS : St w S G n A g L X lg j PA BA BL base pos mark lines depth) (hoff : off ≤ 9223372036854775807) (hbo : base ≤ off) (hG : G < w.heap.size) :
    Calls Try.prog 9 #[.pointer (some ⟨S, 0, none⟩), .agg #[.int .i64 off, .int .i64 line, .int .i64 depth']] w fun e w' => e = .returned (.tuple #[]) ∧ Sought w w' S G n A g L X lg (min off (psum L n)) (wrap64 (line - 1)) depth' := by
  obtain ⟨c0, c1, c2, c3, c4, c5, c6, c7, hf⟩ := hS.cells
  have hSlt : S < w.heap.size := hS.sc.lt
  have hSne : ¬ w.heap.size = S := by omega
  have f6 := hf 6
  have f7 := hf 7
  have HS : Hid (∀ w1, Sim w1 (((w.setCell ⟨S, 6, none⟩ (.int .i64 (wrap64 (line - 1)))).setCell ⟨S, 7, none⟩ (.int .i64 depth')).alloc (.cells #[.int .i64 off, .int .i64 line, .int .i64 depth'] 31)) →
      Keep S G w w1 ∧ w1.cell? ⟨w.heap.size, 0, none⟩ = some (.int .i64 off) ∧ St w1 S G n A g L X lg j PA BA BL base pos mark (wrap64 (line - 1)) depth') := fun w1 s =>
    ⟨((((Keep.refl S G w).setS 6 _).setS 7 _).alloc _).sim s, by
      rw [World.cell?_of_block (w := ((w.setCell ⟨S, 6, none⟩ (.int .i64 (wrap64 (line - 1)))).setCell ⟨S, 7, none⟩ (.int .i64 depth')).alloc (.cells #[.int .i64 off, .int .i64 line, .int .i64 depth'] 31)) (by rw [s.heap])]
      have := (World.rowIs_alloc ((w.setCell ⟨S, 6, none⟩ (.int .i64 (wrap64 (line - 1)))).setCell ⟨S, 7, none⟩ (.int .i64 depth')) #[.int .i64 off, .int .i64 line, .int .i64 depth'] 31 (fun i => #[.int .i64 off, .int .i64 line, .int .i64 depth'].getD i undef) (fun i hi => by simp at hi; simp [hi])).cell (i := 0) (by simp)
      simpa using this, ((st_ld hS _ _).alloc _).sim s⟩
  clear hS hf
  go_enter Try.func9, Try.ntmps9
  go_wp2
  go_region
  go_wp2
  clear c0 c1 c2 c3 c4 c5 c6 c7 f6 f7
  go_loopg [] (n - j) (fun k wr => ∃ j' PA' BA' BL' base' pos' mark', k = n - j' ∧ base' ≤ off ∧ Keep S G w wr ∧ wr.cell? ⟨w.heap.size, 0, none⟩ = some (.int .i64 off) ∧ St wr S G n A g L X lg j' PA' BA' BL' base' pos' mark' (wrap64 (line - 1)) depth')
  case atStart =>
    obtain ⟨h1, h2, h3⟩ := HS.out _ (Sim.drew (Sim.refl _))
    exact ⟨j, PA, BA, BL, base, pos, mark, rfl, hbo, h1, h2, h3⟩
  case round =>
    obtain ⟨j', PA', BA', BL', base', pos', mark', rfl, hbo', hK, hq, hT⟩ := hrel
    obtain ⟨c0, c1, c2, c3, c4, c5, c6, c7, hf⟩ := hT.cells
    have f3 := hf 3
    have f4 := hf 4
    have hle := st_base_le hT
    clear HS hf c0 c1 c6 c7
    by_cases hlt : base' + BL' < off
    · have hd : (base' : Int) + BL' < off := by omega
      have HT := fun w1 s => seek_pre hK hT hq (show w.heap.size ≠ S by omega) w1 s
      have HT' : Hid (∀ w1, Sim w1 ((wr.setCell ⟨S, 3, none⟩ (.int .i64 BL')).setCell ⟨S, 4, none⟩ (.int .i64 BL')) → St w1 S G n A g L X lg j' PA' BA' BL' base' BL' BL' (wrap64 (line - 1)) depth' ∧ Keep S G w w1 ∧ w1.cell? ⟨w.heap.size, 0, none⟩ = some (.int .i64 off)) := HT
      clear hT hK HT
      go_wp2
      go_quiet (fail)
      go_wp2
      go_region
      go_wp2_with fail
      refine (more_q S G n A g L X lg j' PA' BA' BL' base' (wrap64 (line - 1)) depth' w _ w.heap.size (.int .i64 off) hn hP ?h1 ?h2 ?h3 (by omega) (by omega)).mono ?_
      case h1 => exact (HT'.out _ (by repeat' (with_reducible first | exact Sim.refl _ | refine Sim.drew ?_ | refine Sim.drewN ?_ _ | refine Sim.setCell ?_ _ _))).1
      case h2 => exact (HT'.out _ (by repeat' (with_reducible first | exact Sim.refl _ | refine Sim.drew ?_ | refine Sim.drewN ?_ _ | refine Sim.setCell ?_ _ _))).2.1
      case h3 => exact (HT'.out _ (by repeat' (with_reducible first | exact Sim.refl _ | refine Sim.drew ?_ | refine Sim.drewN ?_ _ | refine Sim.setCell ?_ _ _))).2.2
      rintro e w2 ⟨hM, hq2⟩
      rcases hM with ⟨rfl, hK2, j2, PA2, BA2, BL2, hj2, hT2⟩ | ⟨rfl, hK2, PA2, hT2⟩
      · have HT2 : Hid (St w2 S G n A g L X lg j2 PA2 BA2 BL2 (base' + BL') 0 0 (wrap64 (line - 1)) depth') := hT2
        have HK2 : Hid (Keep S G w w2) := hK2
        have hjn := hT2.jn
        clear hT2 hK2 hq c2 c3 c4 c5 f3 f4
        go_wp2
        go_roundg (n - j2)
        case measure => omega
        case rel => exact ⟨j2, PA2, BA2, BL2, base' + BL', 0, 0, rfl, Nat.le_of_lt hlt, HK2.out, hq2, HT2.out⟩
      · have HT2 : Hid (Sought w w2 S G n A g L X lg (min off (psum L n)) (wrap64 (line - 1)) depth') := ⟨hK2, n, PA2, BA', BL', base', BL', hT2, Nat.le_refl _, by have := hT2.sum; omega⟩
        clear hT2 hK2 hq c2 c3 c4 c5 f3 f4 hq2
        go_wp2
        first | go_end0 | refine bodyPost_ret (results_none rfl _ _ _) rfl ?_
        exact ⟨rfl, HT2.out⟩
    · have hd : ¬ ((base' : Int) + BL' < off) := by omega
      have hd : decide ((base' : Int) + BL' < off) = false := by simpa using hd
      have HT' : Hid (∀ w1, Sim w1 ((wr.setCell ⟨S, 3, none⟩ (.int .i64 ((off : Int) - base'))).setCell ⟨S, 4, none⟩ (.int .i64 ((off : Int) - base'))) → Sought w w1 S G n A g L X lg (min off (psum L n)) (wrap64 (line - 1)) depth') := fun w1 s => sought_end hK hT hbo' hlt w1 s
      clear hT hK
      go_wp2
      go_quiet (fail)
      go_wp2
      go_region
      go_wp2
      go_end0
      exact ⟨rfl, HT'.out _ (by repeat' (with_reducible first | exact Sim.refl _ | refine Sim.drew ?_ | refine Sim.drewN ?_ _ | refine Sim.setCell ?_ _ _))⟩
end Go.Proofs.Qxb6628312a
