import Derived.Test.Qxb6628312aRows
import Derived.Test.Qxb6628312aMem
import Derived.Test.Qxb6628312aClone
namespace Go.Proofs.Qxb6628312a
open Go.RowKit Go.Deep

set_option maxHeartbeats 1600000 in
theorem join_any (A0 : Option Addr) (b off n c : Nat) (A : Nat → Option Addr) (L C Ab Ao : Nat → Nat) (X : Nat → Int) (w : World) (hn : n ≤ 1048576) (hP : psum L n ≤ 1048576)
    (hA0 : 0 < n → A0 = some ⟨b, off, none⟩) (hrow : ∀ r, r < n → w.cell? ⟨b, off + r, none⟩ = some (.slice (A r) (L r) (C r)))
    (hcell : ∀ r, r < n → ∀ i, i < L r → A r = some ⟨Ab r, Ao r, none⟩ ∧ w.cell? ⟨Ab r, Ao r + i, none⟩ = some (.int .u8 (X (psum L r + i)))) :
    Calls Try.prog 7 #[.slice A0 n c] w fun e w' => e = .returned (.slice (some ⟨w.heap.size, 0, none⟩) (psum L n) (psum L n)) ∧ In w w' (psum L n) (psum L n) X := by
  have hmk := run_make_row' (P := Try.prog) 24 5 (.int .u8 0) 1 Try.underlying24 info5 rfl .i64 .i64 (psum L n) (by omega) (by omega)
  go_enter Try.func7, Try.ntmps7
  go_wp2
  go_loop [3, 4] (fun t i => ∃ k : Nat, k ≤ n ∧ i = .int .i64 k ∧ t = .int .i64 (psum L k : Nat)) (fun _ i => n - (intOf i).toNat)
  case atStart => exact ⟨0, Nat.zero_le _, rfl, rfl⟩
  case round =>
    obtain ⟨k, hk, rfl, rfl⟩ := hrel
    by_cases hlt : k < n
    · have e := hA0 (by omega)
      subst e
      have hc := hrow k hlt
      have hp := psum_part L hlt
      clear hA0 hrow hcell hmk
      go_wp2
      go_round
      case rel => exact ⟨k + 1, by omega, by go_num, by rw [psum_succ]; go_num⟩
      case measure => simp [intOf]; omega
    · obtain rfl : k = n := by omega
      go_wp2
      clear hmk
      go_loopg [6, 7] k (fun g t i wr => ∃ r : Nat, r ≤ k ∧ g = k - r ∧ i = .int .i64 r ∧ t = .int .i64 (psum L r : Nat) ∧ In w wr (psum L k) (psum L r) X)
      case atStart => exact ⟨0, Nat.zero_le _, rfl, rfl, rfl, in_start w _ _⟩
      case round =>
        obtain ⟨r, hr, rfl, rfl, rfl, hI⟩ := hrel
        by_cases hrl : r < k
        · have e := hA0 (by omega)
          subst e
          have hc := hrow r hrl
          have hblt := World.block_lt_of_cell? _ _ hc
          have hp := psum_part L hrl
          have hcr := hcell r hrl
          have g0 : wr.cell? ⟨b, off + r, none⟩ = some (.slice (A r) (L r) (C r)) := (hI.below.cell (p := ⟨b, off + r, none⟩) hblt).trans hc
          have HI : Hid (In w wr (psum L k) (psum L r) X) := hI
          clear hA0 hrow hcell hI hc
          go_wp2
          obtain ⟨wo, rfl⟩ : ∃ wo : World, wo = wr := ⟨_, rfl⟩
          go_loopg [6, 9] (L r) (fun g t i wi => ∃ j : Nat, j ≤ L r ∧ g = L r - j ∧ i = .int .i64 j ∧ t = .int .i64 (psum L r + j : Nat) ∧ In w wi (psum L k) (psum L r + j) X)
          case atStart => exact ⟨0, Nat.zero_le _, rfl, rfl, rfl, HI.out⟩
          case round =>
            obtain ⟨j, hj, rfl, rfl, rfl, hI⟩ := hrel
            clear g0 HI
            by_cases hjl : j < L r
            · obtain ⟨ha1, hc1⟩ := hcr j hjl
              have g1 : wr.cell? ⟨Ab r, Ao r + j, none⟩ = some (.int .u8 (X (psum L r + j))) := (hI.below.cell (p := ⟨Ab r, Ao r + j, none⟩) (World.block_lt_of_cell? _ _ hc1)).trans hc1
              have g2 : wr.cell? ⟨w.heap.size, psum L r + j, none⟩ = some (.int .u8 0) := by simpa using hI.cur.cell (i := psum L r + j) (by omega)
              have g3 : wr.frozen? ⟨w.heap.size, psum L r + j, none⟩ = false := hI.cur.frozen _
              have HI : Hid (In w wr (psum L k) (psum L r + j) X) := hI
              clear hI hcr hc1
              go_wp2
              go_roundg (L r - (j + 1))
              case measure => omega
              case rel => exact ⟨j + 1, by omega, rfl, by go_num, by go_num, in_step HI.out⟩
            · obtain rfl : j = L r := by omega
              clear hcr
              go_wp2
              go_roundg (k - (r + 1))
              case measure => omega
              case rel => exact ⟨r + 1, by omega, rfl, by go_num, by rw [psum_succ], by rw [psum_succ]; exact hI⟩
        · obtain rfl : r = k := by omega
          clear hA0 hrow hcell
          go_wp2
          go_ret
          exact ⟨rfl, hI⟩
end Go.Proofs.Qxb6628312a
