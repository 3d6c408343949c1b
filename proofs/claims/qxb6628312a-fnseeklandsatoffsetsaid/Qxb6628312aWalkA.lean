import Derived.Test.Qxb6628312aUnits
namespace Go.Proofs.Qxb6628312a
open Go.RowKit Go.Deep

set_option maxHeartbeats 1600000 in
set_option maxRecDepth 100000 in
theorem walk1 (A0 : Option Addr) (b off n c : Nat) (A : Nat → Option Addr) (L C Ab Ao : Nat → Nat) (X : Nat → Int) (lg : Bool) (o line depth : Int) (w : World) (hn : n ≤ 9223372036854775807) (ho : o ≤ 9223372036854775807) (h : Came w A0 b off n A L C Ab Ao X) :
    Calls Try.prog 3 #[.slice A0 n c, .bool lg, .int .i64 o, .int .i64 line, .int .i64 depth] w fun e w' => e = .returned (.bool true) ∧ Below w.heap.size w w' := by
  have H : Hid (Came w A0 b off n A L C Ab Ao X) := h
  clear h
  go_enter Try.func3, Try.ntmps3
  go_wp2_with fail
  refine (bytes_any A0 b off n c A L C lg o line depth w hn H.out.nil H.out.row).mono ?_
  rintro e w ⟨hS, rfl⟩
  rcases hS with rfl | ⟨rfl, hsm⟩
  · go_wp2
    go_ret
    exact ⟨rfl, Below.refl _ _⟩
  · go_wp2
    · go_ret
      exact ⟨rfl, Below.refl _ _⟩
    · go_loop [11, 12] (fun s i => ∃ k : Nat, k ≤ n ∧ i = .int .i64 k ∧ s = .int .i64 (8 * k + psum L k : Nat)) (fun _ i => n - (intOf i).toNat)
      case atStart => exact ⟨0, Nat.zero_le _, rfl, rfl⟩
      case round =>
        obtain ⟨k, hk, rfl, rfl⟩ := hrel
        by_cases hlt : k < n
        · have e := H.out.nil (by omega)
          subst e
          have hc := H.out.row k hlt
          have hp := psum_part L hlt
          go_wp2
          · go_ret
            exact ⟨rfl, Below.refl _ _⟩
          · go_round
            case rel => exact ⟨k + 1, by omega, by go_num, by rw [psum_succ]; go_num⟩
            case measure => simp [intOf]; omega
        · obtain rfl : k = n := by omega
          by_cases ho0 : o < 0
          · go_wp2
            go_ret
            exact ⟨rfl, Below.refl _ _⟩
          · obtain ⟨on, rfl⟩ : ∃ on : Nat, o = on := ⟨o.toNat, by omega⟩
            go_wp2_with fail
            refine (clone_u A0 b off k c A L C Ab Ao X w hsm H.out).mono ?_
            rintro e w1 ⟨A1, G, A', g, rfl, hU⟩
            have HU : Hid (ClU w w1 k L X A1 G A' g) := hU
            clear hU
            go_wp2_with fail
            refine (join_any A1 G 0 k k A' L L g (fun _ => 0) X w1 (by omega) (by omega) HU.out.came.nil HU.out.came.row HU.out.came.cell).mono ?_
            rintro e w2 ⟨rfl, hI⟩
            have HI : Hid (In w1 w2 (psum L k) (psum L k) X) := hI
            clear hI
            have HST : Hid (St (newSc w2 (.slice A1 k k) lg) w2.heap.size (gOf k G w2.heap.size) k A' g L X lg 0 A1 none 0 0 ((0 : Nat) : Int) ((0 : Nat) : Int) 0 0) := st_init HU.out (fun i _ h2 => HI.out.below.block i h2) HI.out.below.size lg
            have hs1 := HU.out.below.size
            have hs2 := HI.out.below.size
            have htl := HI.out.cur.lt
            have HG : Hid (gOf k G w2.heap.size < (newSc w2 (.slice A1 k k) lg).heap.size) := by
              show _ < _
              rw [newSc_size]
              exact gOf_lt (fun q => by have := HU.out.nil q; omega) (by omega)
            have HTX : Hid (∀ w4, Keep w2.heap.size (gOf k G w2.heap.size) (newSc w2 (.slice A1 k k) lg) w4 → w4.rowIs w1.heap.size 5 (psum L k) (fun k => .int .u8 (X k))) := fun w4 hK =>
              hK.row (newSc_keeps HI.out.text _ _) (by omega) (gOf_ne (fun q => by have := HU.out.nil q; omega) (by omega))
            have HBE : Hid (∀ w4, Keep w2.heap.size (gOf k G w2.heap.size) (newSc w2 (.slice A1 k k) lg) w4 → Below w.heap.size w w4) := fun w4 hK =>
              (newSc_below (HU.out.below.trans (HI.out.below.mono hs1)) (by omega) _ _).trans (hK.below (by omega) (gOf_le (fun q => (HU.out.nil q).2.1) (by omega)) (by rw [newSc_size]; omega))
            by_cases hlo : psum L k < on
            · go_wp2_with fail
              refine (new_any A1 k k lg w2).mono ?_
              rintro e w3 ⟨rfl, rfl⟩
              go_wp2_with fail
              refine (seek_any w2.heap.size (gOf k G w2.heap.size) k A' g L X lg 0 A1 none 0 0 on _ _ 0 0 line depth (newSc w2 (.slice A1 k k) lg) (by omega) (by omega) HST.out (by omega) (Nat.zero_le _) HG.out).mono ?_
              rintro e w4 ⟨rfl, hK, j, PA, BA, BL, base, p, hT, hp, hbp⟩
              have HK : Hid (Keep w2.heap.size (gOf k G w2.heap.size) (newSc w2 (.slice A1 k k) lg) w4) := hK
              have HT : Hid (St w4 w2.heap.size (gOf k G w2.heap.size) k A' g L X lg j PA BA BL base p p (wrap64 (line - 1)) depth) := hT
              have HB : Hid (base + p = psum L k) := by show base + p = psum L k; omega
              clear hK hT hbp
              go_wp2_with fail
              refine (is_any w2.heap.size (gOf k G w2.heap.size) k A' g L X lg j PA BA BL base p w1.heap.size (psum L k) (wrap64 (line - 1)) depth w4 (by omega) (by omega) HT.out hp HB.out (HTX.out _ HK.out)).mono ?_
              rintro e w5 ⟨rfl, q, rfl⟩
              go_wp2
              go_ret
              exact ⟨rfl, belowDrawn (HBE.out _ HK.out) q⟩
            · go_wp2_with fail
              refine (new_any A1 k k lg w2).mono ?_
              rintro e w3 ⟨rfl, rfl⟩
              go_wp2_with fail
              refine (seek_any w2.heap.size (gOf k G w2.heap.size) k A' g L X lg 0 A1 none 0 0 on _ _ 0 0 line depth (newSc w2 (.slice A1 k k) lg) (by omega) (by omega) HST.out (by omega) (Nat.zero_le _) HG.out).mono ?_
              rintro e w4 ⟨rfl, hK, j, PA, BA, BL, base, p, hT, hp, hbp⟩
              have HK : Hid (Keep w2.heap.size (gOf k G w2.heap.size) (newSc w2 (.slice A1 k k) lg) w4) := hK
              have HT : Hid (St w4 w2.heap.size (gOf k G w2.heap.size) k A' g L X lg j PA BA BL base p p (wrap64 (line - 1)) depth) := hT
              have HB : Hid (base + p = on) := by show base + p = on; omega
              clear hK hT hbp
              go_wp2_with fail
              refine (is_any w2.heap.size (gOf k G w2.heap.size) k A' g L X lg j PA BA BL base p w1.heap.size (on) (wrap64 (line - 1)) depth w4 (by omega) (by omega) HT.out hp HB.out (HTX.out _ HK.out)).mono ?_
              rintro e w5 ⟨rfl, q, rfl⟩
              go_wp2
              go_ret
              exact ⟨rfl, belowDrawn (HBE.out _ HK.out) q⟩
end Go.Proofs.Qxb6628312a
