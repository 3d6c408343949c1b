import Derived.Test.Qxb6628312aRows
import Derived.Test.Qxb6628312aMem
import Derived.WalkSpells
import Derived.Deep.LoopGhost
import Derived.Deep.QuietTactic
import Derived.BigQuiet
namespace Go.Proofs.Qxb6628312a
open Go.RowKit Go.Deep

theorem info5 : (Try.prog.info? 5).map (fun i => (i.zero, i.size, i.bytes)) = some (some (.int .u8 0), 1, 1) := by kernel_rfl
theorem info24 : (Try.prog.info? 24).map (fun i => (i.zero, i.size, i.bytes)) = some (some (.slice none 0 0), 1, 24) := by kernel_rfl

set_option maxHeartbeats 400000 in
theorem clone_nil (n c : Nat) (w : World) :
    Calls Try.prog 6 #[.slice none n c] w fun e w' => e = .returned (.slice none 0 0) ∧ w' = w := by
  have hq := fun (w : World) (a : Option Addr) (n c n' c' : Nat) => Lib.run_eql_slice_nil (P := Try.prog) w 22 24 a n c n' c' Try.underlying22
  go_enter Try.func6, Try.ntmps6
  go_wp2
  go_ret
  exact ⟨rfl, rfl⟩

set_option maxHeartbeats 1600000 in
theorem clone_any (a0 : Addr) (b off n c : Nat) (A : Nat → Option Addr) (L C Ab Ao : Nat → Nat) (X : Nat → Int) (w : World) (hn : n ≤ 1048576) (hL : ∀ r, r < n → L r ≤ 1048576)
    (hA0 : 0 < n → a0 = ⟨b, off, none⟩) (hrow : ∀ r, r < n → w.cell? ⟨b, off + r, none⟩ = some (.slice (A r) (L r) (C r)))
    (hcell : ∀ r, r < n → ∀ i, i < L r → A r = some ⟨Ab r, Ao r, none⟩ ∧ w.cell? ⟨Ab r, Ao r + i, none⟩ = some (.int .u8 (X (psum L r + i)))) :
    Calls Try.prog 6 #[.slice (some a0) n c] w fun e w' => e = .returned (.slice (some ⟨w.heap.size, 0, none⟩) n n) ∧ Cloned w w' n n L X := by
  have hq := fun (w : World) (a : Option Addr) (n c n' c' : Nat) => Lib.run_eql_slice_nil (P := Try.prog) w 22 24 a n c n' c' Try.underlying22
  have hq2 := fun (w : World) (a : Option Addr) (n c n' c' : Nat) => Lib.run_eql_slice_nil (P := Try.prog) w 24 5 a n c n' c' Try.underlying24
  have hmk := run_make_row' (P := Try.prog) 22 24 (.slice none 0 0) 24 Try.underlying22 info24 rfl .i64 .i64 n (by omega) (by omega)
  go_enter Try.func6, Try.ntmps6
  go_wp2
  clear hmk hq
  go_loopg [4] n (fun g i wr => ∃ k : Nat, k ≤ n ∧ g = n - k ∧ i = .int .i64 k ∧ Cloned w wr n k L X)
  case atStart => exact ⟨0, Nat.zero_le _, rfl, rfl, cl_start w n L X⟩
  case round =>
    obtain ⟨k, hk, rfl, rfl, hC⟩ := hrel
    by_cases hlt : k < n
    · have e := hA0 (by omega)
      subst e
      have hblt : b < w.heap.size := World.block_lt_of_cell? _ _ (hrow k hlt)
      obtain ⟨V, hV⟩ := hC
      have hbel := hV.below
      have hwr : w.heap.size < wr.heap.size := hV.top.lt
      have hc0 : wr.cell? ⟨b, off + k, none⟩ = some (.slice (A k) (L k) (C k)) := (hbel.cell (p := ⟨b, off + k, none⟩) hblt).trans (hrow k hlt)
      have hLk := hL k hlt
      have hcellk := hcell k hlt
      cases hAk : A k with
      | none =>
        have hL0 : L k = 0 := by
          by_cases h0 : L k = 0
          · exact h0
          · have := (hcellk 0 (by omega)).1
            rw [hAk] at this
            cases this
        rw [hAk] at hc0
        have HC : Hid (Cloned w wr n (k + 1) L X) := cl_nil ⟨V, hV⟩ hlt hL0
        clear hL0 hcellk hAk hV hrow hcell hA0 hbel
        go_wp2
        go_roundg (n - (k + 1))
        case measure => omega
        case rel => exact ⟨k + 1, by omega, rfl, by go_num, HC.out⟩
      | some a1 =>
        rw [hAk] at hc0
        have hmk2 := run_make_row' (P := Try.prog) 24 5 (.int .u8 0) 1 Try.underlying24 info5 rfl .i64 .i64 (L k) (by omega) (by omega)
        have HV : Hid (Cl w wr n k L X V) := hV
        clear hV hrow hcell hA0 hbel
        go_wp2
        obtain ⟨wo, rfl⟩ : ∃ wo : World, wo = wr := ⟨_, rfl⟩
        clear hmk2 hq2 hc0
        go_loopg [7] (L k) (fun g i wi => ∃ j : Nat, j ≤ L k ∧ g = L k - j ∧ i = .int .i64 j ∧ In wo wi (L k) j (fun i => X (psum L k + i)))
        case atStart => exact ⟨0, Nat.zero_le _, rfl, rfl, in_start wo _ _⟩
        case round =>
          obtain ⟨j, hj, rfl, rfl, hI⟩ := hrel
          have hbel : Below w.heap.size w wr := HV.out.below.trans (hI.below.mono (by omega))
          by_cases hjl : j < L k
          · obtain ⟨ha1, hc1⟩ := hcellk j hjl
            rw [hAk] at ha1
            obtain rfl : a1 = ⟨Ab k, Ao k, none⟩ := by injection ha1
            have g1 : wr.cell? ⟨Ab k, Ao k + j, none⟩ = some (.int .u8 (X (psum L k + j))) := (hbel.cell (p := ⟨Ab k, Ao k + j, none⟩) (World.block_lt_of_cell? _ _ hc1)).trans hc1
            have g2 : wr.cell? ⟨wo.heap.size, j, none⟩ = some (.int .u8 0) := by simpa using hI.cur.cell hjl
            have g3 : wr.frozen? ⟨wo.heap.size, j, none⟩ = false := hI.cur.frozen j
            have HI : Hid (In wo wr (L k) j (fun i => X (psum L k + i))) := hI
            clear hI hcellk hc1 ha1 hbel hAk
            go_wp2
            go_roundg (L k - (j + 1))
            case measure => omega
            case rel => exact ⟨j + 1, by omega, rfl, by go_num, in_step HI.out⟩
          · obtain rfl : j = L k := by omega
            have h1 := rowIs_below HV.out.top hI.below HV.out.top.lt
            have g1 : wr.cell? ⟨w.heap.size, k, none⟩ = some (V k) := h1.cell hlt
            have g2 : wr.frozen? ⟨w.heap.size, k, none⟩ = false := h1.frozen k
            have HC : Hid (Cloned w (wr.setCell ⟨w.heap.size, k, none⟩ (.slice (some ⟨wo.heap.size, 0, none⟩) (L k) (L k))) n (k + 1) L X) := in_done ⟨V, HV.out⟩ hI
            clear h1 hI hcellk hbel hAk
            go_wp2
            go_roundg (n - (k + 1))
            case measure => omega
            case rel => exact ⟨k + 1, by omega, rfl, by go_num, HC.out⟩
    · clear hA0 hrow hcell hq2
      go_wp2
      go_ret
      obtain rfl : k = n := by omega
      exact ⟨rfl, hC⟩
end Go.Proofs.Qxb6628312a
