import Derived.Test.Qxb6628312aState
import Derived.Test.Qxb6628312aRows
import Derived.WalkSpells
import Derived.Deep.LoopGhost
import Derived.Deep.QuietTactic
import Derived.BigQuiet
namespace Go.Proofs.Qxb6628312a
open Go.RowKit Go.Deep

/-- A new Scanner's world. -/
def newSc (w : World) (v : Value) (lg : Bool) : World :=
  w.alloc (.cells #[v, .bool lg, .slice none 0 0, .int .i64 0, .int .i64 0, .int .i64 0, .int .i64 0, .int .i64 0, .int .u8 0, .slice none 0 0, .int .i64 0, .int .i64 0, .bool false, .int .u8 0] 39)

set_option maxHeartbeats 400000 in
theorem new_any (A : Option Addr) (n c : Nat) (lg : Bool) (w : World) :
    Calls Try.prog 8 #[.slice A n c, .bool lg] w fun e w' => e = .returned (.pointer (some ⟨w.heap.size, 0, none⟩)) ∧ w' = newSc w (.slice A n c) lg := by
  go_enter Try.func8, Try.ntmps8
  go_wp2
  go_ret
  exact ⟨rfl, rfl⟩

theorem newSc_row (w : World) (v : Value) (lg : Bool) : (newSc w v lg).rowIs w.heap.size 39 14 (scf v lg (.slice none 0 0) 0 0 0 0 0) :=
  World.rowIs_alloc w _ 39 _ (by apply all14 <;> rfl)

set_option maxHeartbeats 400000 in
theorem state_any (S : Nat) (A A2 : Option Addr) (n c n2 k2 : Nat) (pos mark base lines depth : Int) (w : World)
   (c0 : w.cell? ⟨S, 0, none⟩ = some (.slice A n c)) (c2 : w.cell? ⟨S, 2, none⟩ = some (.slice A2 n2 k2)) (c3 : w.cell? ⟨S, 3, none⟩ = some (.int .i64 pos)) (c4 : w.cell? ⟨S, 4, none⟩ = some (.int .i64 mark))
   (c5 : w.cell? ⟨S, 5, none⟩ = some (.int .i64 base)) (c6 : w.cell? ⟨S, 6, none⟩ = some (.int .i64 lines)) (c7 : w.cell? ⟨S, 7, none⟩ = some (.int .i64 depth)) :
    Calls Try.prog 13 #[.pointer (some ⟨S, 0, none⟩)] w fun e w' => e = .returned (.tuple #[.slice A2 n2 k2, .int .i64 pos, .int .i64 mark, .int .i64 base, .int .i64 lines, .int .i64 depth, .slice A n c]) ∧ ∃ q, w' = w.drewN q := by
  go_enter Try.func13, Try.ntmps13
  go_wp2
  go_quiet (fail)
  go_wp2
  exact bodyPost_ret (v := .tuple #[.slice A2 n2 k2, .int .i64 pos, .int .i64 mark, .int .i64 base, .int .i64 lines, .int .i64 depth, .slice A n c]) (by simp [results, Try.results13, go_sem]) rfl ⟨rfl, nq, rfl⟩

set_option maxHeartbeats 1600000 in
set_option maxRecDepth 100000 in
theorem is_any (S G n : Nat) (A : Nat → Option Addr) (g L : Nat → Nat) (X : Nat → Int) (lg : Bool) (j : Nat) (PA BA : Option Addr) (BL base p T want : Nat) (lines depth : Int) (w : World) (hn : n ≤ 1048576) (hP : psum L n ≤ 1048576)
    (hS : St w S G n A g L X lg j PA BA BL base (p : Nat) (p : Nat) lines depth) (hp : p ≤ BL) (hw : base + p = want) (hT : w.rowIs T 5 (psum L n) (fun k => .int .u8 (X k))) :
    Calls Try.prog 10 #[.pointer (some ⟨S, 0, none⟩), .slice (some ⟨T, 0, none⟩) (psum L n) (psum L n), .int .i64 want, .int .i64 lines, .int .i64 depth] w fun e w' => e = .returned (.bool true) ∧ ∃ q, w' = w.drewN q := by
  subst hw
  obtain ⟨c0, c1, c2, c3, c4, c5, c6, c7, hf⟩ := hS.cells
  clear hf c1
  have hle := st_base_le hS
  have HS : Hid (St w S G n A g L X lg j PA BA BL base (p : Nat) (p : Nat) lines depth) := hS
  have HTx : Hid (w.rowIs T 5 (psum L n) (fun k => .int .u8 (X k))) := hT
  clear hS hT
  go_enter Try.func10, Try.ntmps10
  go_wp2_with (go_at_call 13; refine (state_any S _ _ _ _ _ _ _ _ _ _ _ _ c0 c2 c3 c4 c5 c6 c7).mono ?_; rintro e w' ⟨rfl, q, rfl⟩)
  go_loopg [18, 19] (BL - p) (fun gk k i wr => ∃ m q : Nat, p ≤ m ∧ m ≤ BL ∧ gk = BL - m ∧ k = .int .i64 (base + m : Nat) ∧ i = .int .i64 m ∧ wr = w.drewN q)
  case atStart => exact ⟨p, q, Nat.le_refl _, hp, rfl, by go_num, rfl, rfl⟩
  case round =>
    clear c0 c2 c3 c4 c5 c6 c7
    obtain ⟨m, q', hpm, hm, rfl, rfl, rfl, rfl⟩ := hrel
    by_cases hlt : m < BL
    · rcases HS.out.bufAt with ⟨rfl, rfl⟩ | ⟨bb, rfl, hb1, hb2, hb3⟩
      · omega
      · have g1 : w.cell? ⟨bb, m, none⟩ = some (.int .u8 (X (base + m))) := hb3.cell hlt
        have g2 : w.cell? ⟨T, base + m, none⟩ = some (.int .u8 (X (base + m))) := HTx.out.cell (by omega)
        have i1 : (m : Int) < BL := by omega
        have i2 : (base : Int) + m < (psum L n : Nat) := by omega
        have hd : decide (((psum L n : Nat) : Int) ≤ (base : Int) + m) = false := by simp; omega
        clear hb1 hb2 hb3
        go_wp2
        go_quiet (fail)
        go_wp2
        go_roundg (BL - (m + 1))
        case measure => omega
        case rel => exact ⟨m + 1, _, by omega, by omega, rfl, by go_num, by go_num, rfl⟩
    · obtain rfl : m = BL := by omega
      have hsum := HS.out.sum
      have hjn := HS.out.jn
      have hk0 : Value.int .i64 ((base + m : Nat) : Int) = .int .i64 (psum L j : Nat) := by rw [hsum]
      go_wp2
      rw [hk0]
      clear hk0
      go_loopg [18, 20] (n - j) (fun gk k i wr => ∃ r q : Nat, j ≤ r ∧ r ≤ n ∧ gk = n - r ∧ k = .int .i64 (psum L r : Nat) ∧ i = .int .i64 ((r - j : Nat) : Int) ∧ wr = w.drewN q)
      case atStart => exact ⟨j, q', Nat.le_refl _, hjn, rfl, rfl, by simp, rfl⟩
      case round =>
        obtain ⟨r, q2, hjr, hrn, rfl, rfl, rfl, rfl⟩ := hrel
        by_cases hr : r < n
        · have hpa := HS.out.pa (by omega)
          subst hpa
          obtain ⟨d, rfl⟩ : ∃ d, r = j + d := ⟨r - j, by omega⟩
          have t1 := (HS.out.own.top (j + d) hjr hr).1
          have hrow := HS.out.own.row (j + d) hr
          have hpp := psum_part L hr
          have hdd : j + d - j = d := by omega
          have i0 : (d : Int) < ((n - j : Nat) : Int) := by omega
          rw [hdd]
          have HR : Hid (0 < L (j + d) → A (j + d) = some ⟨g (j + d), 0, none⟩ ∧ ∀ i, i < L (j + d) → w.cell? ⟨g (j + d), i, none⟩ = some (.int .u8 (X (psum L (j + d) + i)))) := fun h => ⟨(hrow h).1, fun i hi => (hrow h).2.2.2.cell hi⟩
          clear hrow hsum hdd
          go_wp2
          go_loopg [18, 22] (L (j + d)) (fun gk k i wr => ∃ m q : Nat, m ≤ L (j + d) ∧ gk = L (j + d) - m ∧ k = .int .i64 (psum L (j + d) + m : Nat) ∧ i = .int .i64 m ∧ wr = w.drewN q)
          case atStart => exact ⟨0, q2, Nat.zero_le _, rfl, rfl, rfl, rfl⟩
          case round =>
            obtain ⟨m2, q3, hm2, rfl, rfl, rfl, rfl⟩ := hrel
            by_cases hml : m2 < L (j + d)
            · obtain ⟨hA1, hA2⟩ := HR.out (by omega)
              have g1 := hA2 m2 hml
              have g2 : w.cell? ⟨T, psum L (j + d) + m2, none⟩ = some (.int .u8 (X (psum L (j + d) + m2))) := HTx.out.cell (by omega)
              have i1 : (m2 : Int) < (L (j + d) : Nat) := by omega
              have i2 : ((psum L (j + d) : Nat) : Int) + m2 < (psum L n : Nat) := by omega
              have hd : decide (((psum L n : Nat) : Int) ≤ ((psum L (j + d) : Nat) : Int) + m2) = false := by simp; omega
              clear hA2 t1
              go_wp2
              go_quiet (fail)
              go_wp2
              go_roundg (L (j + d) - (m2 + 1))
              case measure => omega
              case rel => exact ⟨m2 + 1, _, by omega, rfl, by go_num, by go_num, rfl⟩
            · obtain rfl : m2 = L (j + d) := by omega
              clear t1
              go_wp2
              go_roundg (n - (j + d + 1))
              case measure => omega
              case rel => exact ⟨j + d + 1, q3, by omega, by omega, rfl, by rw [psum_succ], by go_num, rfl⟩
        · obtain rfl : r = n := by omega
          go_wp2
          go_ret
          exact ⟨rfl, q2, rfl⟩
end Go.Proofs.Qxb6628312a
