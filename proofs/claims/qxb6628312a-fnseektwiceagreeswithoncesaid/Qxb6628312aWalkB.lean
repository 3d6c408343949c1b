import Derived.Test.Qxb6628312aUnits
namespace Go.Proofs.Qxb6628312a
open Go.RowKit Go.Deep

section
variable {w w1 w2 w3 : World} {n : Nat} {L : Nat → Nat} {X : Nat → Int} {A1 A2 : Option Addr} {G1 G2 : Nat} {B1 B2 : Nat → Option Addr} {g1 g2 : Nat → Nat}

/-- The first Scanner's block of parts, and its world. -/
theorem two_first (hU : ClU w w1 n L X A1 G1 B1 g1) (hI : In w1 w2 (psum L n) (psum L n) X) (hV : ClU w2 w3 n L X A2 G2 B2 g2) (lg : Bool) :
    St (newSc w3 (.slice A1 n n) lg) w3.heap.size (gOf n G1 w3.heap.size) n B1 g1 L X lg 0 A1 none 0 0 ((0 : Nat) : Int) ((0 : Nat) : Int) 0 0 ∧ gOf n G1 w3.heap.size < (newSc w3 (.slice A1 n n) lg).heap.size := by
  have s1 := hI.below.size
  have s2 := hV.below.size
  refine ⟨st_init hU (fun k _ hk => (hV.below.block k (by omega)).trans (hI.below.block k hk)) (by omega) lg, ?_⟩
  rw [newSc_size]
  exact gOf_lt (fun q => by have := hU.nil q; omega) (by omega)

theorem two_second (hU : ClU w w1 n L X A1 G1 B1 g1) (hI : In w1 w2 (psum L n) (psum L n) X) (hV : ClU w2 w3 n L X A2 G2 B2 g2) (lg : Bool) (w6 : World) (hK : Keep w3.heap.size (gOf n G1 w3.heap.size) (newSc w3 (.slice A1 n n) lg) w6) :
    St (newSc w6 (.slice A2 n n) lg) w6.heap.size (gOf n G2 w6.heap.size) n B2 g2 L X lg 0 A2 none 0 0 ((0 : Nat) : Int) ((0 : Nat) : Int) 0 0 ∧ gOf n G2 w6.heap.size < (newSc w6 (.slice A2 n n) lg).heap.size := by
  have s1 := hI.below.size
  have s2 := hV.below.size
  have s3 := hK.size
  rw [newSc_size] at s3
  refine ⟨st_init hV (fun k h1 hk => ?_) (by omega) lg, ?_⟩
  · rw [hK.block k (by rw [newSc_size]; omega) (by omega) (gOf_ne (fun q => by have := hU.nil q; omega) (by omega))]
    exact Below.heap_alloc _ _ _ hk
  · rw [newSc_size]
    exact gOf_lt (fun q => by have := hV.nil q; omega) (by omega)

theorem two_end (hU : ClU w w1 n L X A1 G1 B1 g1) (hI : In w1 w2 (psum L n) (psum L n) X) (hV : ClU w2 w3 n L X A2 G2 B2 g2) (lg : Bool) (w6 w8 : World) (hK : Keep w3.heap.size (gOf n G1 w3.heap.size) (newSc w3 (.slice A1 n n) lg) w6)
    (hM : Keep w6.heap.size (gOf n G2 w6.heap.size) (newSc w6 (.slice A2 n n) lg) w8) {j : Nat} {PA BA : Option Addr} {BL base : Nat} {pos mark lines depth : Int}
    (hS : St w6 w3.heap.size (gOf n G1 w3.heap.size) n B1 g1 L X lg j PA BA BL base pos mark lines depth) :
    St w8 w3.heap.size (gOf n G1 w3.heap.size) n B1 g1 L X lg j PA BA BL base pos mark lines depth ∧ w8.rowIs w1.heap.size 5 (psum L n) (fun k => .int .u8 (X k)) ∧ Below w.heap.size w w8 := by
  have s0 := hU.below.size
  have s1 := hI.below.size
  have s2 := hV.below.size
  have s3 := hK.size
  have tl := hI.cur.lt
  rw [newSc_size] at s3
  refine ⟨(hS.alloc _).keep hM (by omega) (gOf_ne (fun q => by have := hV.nil q; omega) (by omega)) (fun q => ⟨?_, ?_⟩) (fun r hr h0 => ⟨?_, ?_⟩), ?_, ?_⟩
  · have := hU.nil q
    rw [gOf, if_pos q]; omega
  · have := hU.nil q
    have := hV.nil q
    rw [gOf, if_pos q, gOf, if_pos q]; omega
  · have := hU.glt r hr h0
    omega
  · have := hU.glt r hr h0
    exact gOf_ne (fun q => by have := hV.nil q; omega) (by omega)
  · have r3 : w3.rowIs w1.heap.size 5 (psum L n) (fun k => .int .u8 (X k)) := rowIs_below hI.text hV.below tl
    have r6 := hK.row (newSc_keeps r3 (.slice A1 n n) lg) (by omega) (gOf_ne (fun q => by have := hU.nil q; omega) (by omega))
    exact hM.row (newSc_keeps r6 (.slice A2 n n) lg) (by omega) (gOf_ne (fun q => by have := hV.nil q; omega) (by omega))
  · have b3 : Below w.heap.size w w3 := (hU.below.trans (hI.below.mono (by omega))).trans (hV.below.mono (by omega))
    have b6 : Below w.heap.size w w6 := (newSc_below b3 (by omega) (.slice A1 n n) lg).trans (hK.below (by omega) (gOf_le (fun q => by have := hU.nil q; omega) (by omega)) (by rw [newSc_size]; omega))
    exact (newSc_below b6 (by omega) (.slice A2 n n) lg).trans (hM.below (by omega) (gOf_le (fun q => by have := hV.nil q; omega) (by omega)) (by rw [newSc_size]; omega))
end

set_option maxHeartbeats 3200000 in
set_option maxRecDepth 100000 in
theorem walk2 (A0 : Option Addr) (b off n c : Nat) (A : Nat → Option Addr) (L C Ab Ao : Nat → Nat) (X : Nat → Int) (lg : Bool) (x y line1 depth1 line2 depth2 : Int) (w : World) (hn : n ≤ 9223372036854775807) (hx : x ≤ 9223372036854775807) (hy : y ≤ 9223372036854775807) (h : Came w A0 b off n A L C Ab Ao X) :
    Calls Try.prog 4 #[.slice A0 n c, .bool lg, .int .i64 x, .int .i64 y, .int .i64 line1, .int .i64 depth1, .int .i64 line2, .int .i64 depth2] w fun e w' => e = .returned (.bool true) ∧ Below w.heap.size w w' := by
  have H : Hid (Came w A0 b off n A L C Ab Ao X) := h
  clear h
  go_enter Try.func4, Try.ntmps4
  go_wp2_with fail
  refine (bytes2_any A0 b off n c A L C lg x y line1 depth1 line2 depth2 w hn H.out.nil H.out.row).mono ?_
  rintro e w ⟨hS, rfl⟩
  rcases hS with rfl | ⟨rfl, hsm⟩
  · go_wp2
    go_ret
    exact ⟨rfl, Below.refl _ _⟩
  · go_wp2
    · go_ret
      exact ⟨rfl, Below.refl _ _⟩
    · go_loop [17, 18] (fun s i => ∃ k : Nat, k ≤ n ∧ i = .int .i64 k ∧ s = .int .i64 (8 * k + psum L k : Nat)) (fun _ i => n - (intOf i).toNat)
      case atStart => exact ⟨0, Nat.zero_le _, rfl, rfl⟩
      case round =>
        obtain ⟨k, hk, rfl, rfl⟩ := hrel
        by_cases hlt : k < n
        · have e := H.out.nil (by omega)
          subst e
          have hc := H.out.row k hlt
          have hp := psum_part L hlt
          go_wp2
          · go_ret
            exact ⟨rfl, Below.refl _ _⟩
          · go_round
            case rel => exact ⟨k + 1, by omega, by go_num, by rw [psum_succ]; go_num⟩
            case measure => simp [intOf]; omega
        · obtain rfl : k = n := by omega
          by_cases hx0 : x < 0
          · go_wp2
            go_ret
            exact ⟨rfl, Below.refl _ _⟩
          · by_cases hyx : y < x
            · go_wp2
              go_ret
              exact ⟨rfl, Below.refl _ _⟩
            · obtain ⟨xn, rfl⟩ : ∃ xn : Nat, x = xn := ⟨x.toNat, by omega⟩
              obtain ⟨yn, rfl⟩ : ∃ yn : Nat, y = yn := ⟨y.toNat, by omega⟩
              go_wp2_with fail
              refine (clone_u A0 b off k c A L C Ab Ao X w hsm H.out).mono ?_
              rintro e w1 ⟨A1, G1, B1, g1, rfl, hU⟩
              have HU : Hid (ClU w w1 k L X A1 G1 B1 g1) := hU
              clear hU
              go_wp2_with fail
              refine (join_any A1 G1 0 k k B1 L L g1 (fun _ => 0) X w1 (by omega) (by omega) HU.out.came.nil HU.out.came.row HU.out.came.cell).mono ?_
              rintro e w2 ⟨rfl, hI⟩
              have HI : Hid (In w1 w2 (psum L k) (psum L k) X) := hI
              clear hI
              go_wp2_with fail
              refine (clone_u A1 G1 0 k k B1 L L g1 (fun _ => 0) X w2 hsm (HU.out.came.below HI.out.below)).mono ?_
              rintro e w3 ⟨A2, G2, B2, g2, rfl, hV⟩
              have HV : Hid (ClU w2 w3 k L X A2 G2 B2 g2) := hV
              clear hV
              have HF : Hid (St (newSc w3 (.slice A1 k k) lg) w3.heap.size (gOf k G1 w3.heap.size) k B1 g1 L X lg 0 A1 none 0 0 ((0 : Nat) : Int) ((0 : Nat) : Int) 0 0 ∧ gOf k G1 w3.heap.size < (newSc w3 (.slice A1 k k) lg).heap.size) := two_first HU.out HI.out HV.out lg
              by_cases hlo : psum L k < yn
              · go_wp2_with fail
                refine (new_any A1 k k lg w3).mono ?_
                rintro e w4 ⟨rfl, rfl⟩
                go_wp2_with fail
                refine (seek_any w3.heap.size (gOf k G1 w3.heap.size) k B1 g1 L X lg 0 A1 none 0 0 xn _ _ 0 0 line1 depth1 (newSc w3 (.slice A1 k k) lg) (by omega) (by omega) HF.out.1 (by omega) (Nat.zero_le _) HF.out.2).mono ?_
                rintro e w5 ⟨rfl, hK, j, PA, BA, BL, base, p, hT, hp, hbp⟩
                have HT5 : Hid (St w5 w3.heap.size (gOf k G1 w3.heap.size) k B1 g1 L X lg j PA BA BL base p p (wrap64 (line1 - 1)) depth1) := hT
                have HK5 : Hid (Keep w3.heap.size (gOf k G1 w3.heap.size) (newSc w3 (.slice A1 k k) lg) w5) := hK
                have hby : base ≤ yn := by omega
                clear hT hK hp hbp
                go_wp2_with fail
                refine (seek_any w3.heap.size (gOf k G1 w3.heap.size) k B1 g1 L X lg j PA BA BL base yn p p (wrap64 (line1 - 1)) depth1 line2 depth2 w5 (by omega) (by omega) HT5.out (by omega) hby (Nat.lt_of_lt_of_le HF.out.2 HK5.out.size)).mono ?_
                clear hby
                rintro e w6 ⟨rfl, hK, j6, PA6, BA6, BL6, base6, p6, hT, hp6, hbp⟩
                have HT6 : Hid (St w6 w3.heap.size (gOf k G1 w3.heap.size) k B1 g1 L X lg j6 PA6 BA6 BL6 base6 p6 p6 (wrap64 (line2 - 1)) depth2) := hT
                have HK6 : Hid (Keep w3.heap.size (gOf k G1 w3.heap.size) (newSc w3 (.slice A1 k k) lg) w6) := HK5.out.trans hK
                have HB6 : Hid (base6 + p6 = psum L k) := by show base6 + p6 = psum L k; omega
                have HP6 : Hid (p6 ≤ BL6) := hp6
                clear hT hK hbp hp6 HT5 HK5
                go_wp2_with fail
                refine (new_any A2 k k lg w6).mono ?_
                rintro e w7 ⟨rfl, rfl⟩
                have HE : Hid (St (newSc w6 (.slice A2 k k) lg) w6.heap.size (gOf k G2 w6.heap.size) k B2 g2 L X lg 0 A2 none 0 0 ((0 : Nat) : Int) ((0 : Nat) : Int) 0 0 ∧ gOf k G2 w6.heap.size < (newSc w6 (.slice A2 k k) lg).heap.size) := two_second HU.out HI.out HV.out lg w6 HK6.out
                go_wp2_with fail
                refine (seek_any w6.heap.size (gOf k G2 w6.heap.size) k B2 g2 L X lg 0 A2 none 0 0 yn _ _ 0 0 line2 depth2 (newSc w6 (.slice A2 k k) lg) (by omega) (by omega) HE.out.1 (by omega) (Nat.zero_le _) HE.out.2).mono ?_
                rintro e w8 ⟨rfl, hK, j8, PA8, BA8, BL8, base8, p8, hT, hp8, hbp⟩
                have HT8 : Hid (St w8 w6.heap.size (gOf k G2 w6.heap.size) k B2 g2 L X lg j8 PA8 BA8 BL8 base8 p8 p8 (wrap64 (line2 - 1)) depth2) := hT
                have HX8 : Hid (St w8 w3.heap.size (gOf k G1 w3.heap.size) k B1 g1 L X lg j6 PA6 BA6 BL6 base6 p6 p6 (wrap64 (line2 - 1)) depth2 ∧ w8.rowIs w1.heap.size 5 (psum L k) (fun k => .int .u8 (X k)) ∧ Below w.heap.size w w8) := two_end HU.out HI.out HV.out lg w6 w8 HK6.out hK HT6.out
                have HB8 : Hid (base8 + p8 = psum L k) := by show base8 + p8 = psum L k; omega
                have HP8 : Hid (p8 ≤ BL8) := hp8
                clear hT hK hbp hp8 HT6 HK6
                go_wp2_with fail
                refine (is_any w3.heap.size (gOf k G1 w3.heap.size) k B1 g1 L X lg j6 PA6 BA6 BL6 base6 p6 w1.heap.size (psum L k) (wrap64 (line2 - 1)) depth2 w8 (by omega) (by omega) HX8.out.1 HP6.out HB6.out HX8.out.2.1).mono ?_
                rintro e w9 ⟨rfl, q, rfl⟩
                go_wp2_with fail
                refine (is_any w6.heap.size (gOf k G2 w6.heap.size) k B2 g2 L X lg j8 PA8 BA8 BL8 base8 p8 w1.heap.size (psum L k) (wrap64 (line2 - 1)) depth2 (w8.drewN q) (by omega) (by omega) (HT8.out.sim ((Sim.refl _).drewN q)) HP8.out HB8.out (rowIs_sim HX8.out.2.1 ((Sim.refl _).drewN q))).mono ?_
                rintro e w10 ⟨rfl, q', rfl⟩
                go_wp2
                go_ret
                exact ⟨rfl, belowDrawn HX8.out.2.2 _⟩
              · go_wp2_with fail
                refine (new_any A1 k k lg w3).mono ?_
                rintro e w4 ⟨rfl, rfl⟩
                go_wp2_with fail
                refine (seek_any w3.heap.size (gOf k G1 w3.heap.size) k B1 g1 L X lg 0 A1 none 0 0 xn _ _ 0 0 line1 depth1 (newSc w3 (.slice A1 k k) lg) (by omega) (by omega) HF.out.1 (by omega) (Nat.zero_le _) HF.out.2).mono ?_
                rintro e w5 ⟨rfl, hK, j, PA, BA, BL, base, p, hT, hp, hbp⟩
                have HT5 : Hid (St w5 w3.heap.size (gOf k G1 w3.heap.size) k B1 g1 L X lg j PA BA BL base p p (wrap64 (line1 - 1)) depth1) := hT
                have HK5 : Hid (Keep w3.heap.size (gOf k G1 w3.heap.size) (newSc w3 (.slice A1 k k) lg) w5) := hK
                have hby : base ≤ yn := by omega
                clear hT hK hp hbp
                go_wp2_with fail
                refine (seek_any w3.heap.size (gOf k G1 w3.heap.size) k B1 g1 L X lg j PA BA BL base yn p p (wrap64 (line1 - 1)) depth1 line2 depth2 w5 (by omega) (by omega) HT5.out (by omega) hby (Nat.lt_of_lt_of_le HF.out.2 HK5.out.size)).mono ?_
                clear hby
                rintro e w6 ⟨rfl, hK, j6, PA6, BA6, BL6, base6, p6, hT, hp6, hbp⟩
                have HT6 : Hid (St w6 w3.heap.size (gOf k G1 w3.heap.size) k B1 g1 L X lg j6 PA6 BA6 BL6 base6 p6 p6 (wrap64 (line2 - 1)) depth2) := hT
                have HK6 : Hid (Keep w3.heap.size (gOf k G1 w3.heap.size) (newSc w3 (.slice A1 k k) lg) w6) := HK5.out.trans hK
                have HB6 : Hid (base6 + p6 = yn) := by show base6 + p6 = yn; omega
                have HP6 : Hid (p6 ≤ BL6) := hp6
                clear hT hK hbp hp6 HT5 HK5
                go_wp2_with fail
                refine (new_any A2 k k lg w6).mono ?_
                rintro e w7 ⟨rfl, rfl⟩
                have HE : Hid (St (newSc w6 (.slice A2 k k) lg) w6.heap.size (gOf k G2 w6.heap.size) k B2 g2 L X lg 0 A2 none 0 0 ((0 : Nat) : Int) ((0 : Nat) : Int) 0 0 ∧ gOf k G2 w6.heap.size < (newSc w6 (.slice A2 k k) lg).heap.size) := two_second HU.out HI.out HV.out lg w6 HK6.out
                go_wp2_with fail
                refine (seek_any w6.heap.size (gOf k G2 w6.heap.size) k B2 g2 L X lg 0 A2 none 0 0 yn _ _ 0 0 line2 depth2 (newSc w6 (.slice A2 k k) lg) (by omega) (by omega) HE.out.1 (by omega) (Nat.zero_le _) HE.out.2).mono ?_
                rintro e w8 ⟨rfl, hK, j8, PA8, BA8, BL8, base8, p8, hT, hp8, hbp⟩
                have HT8 : Hid (St w8 w6.heap.size (gOf k G2 w6.heap.size) k B2 g2 L X lg j8 PA8 BA8 BL8 base8 p8 p8 (wrap64 (line2 - 1)) depth2) := hT
                have HX8 : Hid (St w8 w3.heap.size (gOf k G1 w3.heap.size) k B1 g1 L X lg j6 PA6 BA6 BL6 base6 p6 p6 (wrap64 (line2 - 1)) depth2 ∧ w8.rowIs w1.heap.size 5 (psum L k) (fun k => .int .u8 (X k)) ∧ Below w.heap.size w w8) := two_end HU.out HI.out HV.out lg w6 w8 HK6.out hK HT6.out
                have HB8 : Hid (base8 + p8 = yn) := by show base8 + p8 = yn; omega
                have HP8 : Hid (p8 ≤ BL8) := hp8
                clear hT hK hbp hp8 HT6 HK6
                go_wp2_with fail
                refine (is_any w3.heap.size (gOf k G1 w3.heap.size) k B1 g1 L X lg j6 PA6 BA6 BL6 base6 p6 w1.heap.size (yn) (wrap64 (line2 - 1)) depth2 w8 (by omega) (by omega) HX8.out.1 HP6.out HB6.out HX8.out.2.1).mono ?_
                rintro e w9 ⟨rfl, q, rfl⟩
                go_wp2_with fail
                refine (is_any w6.heap.size (gOf k G2 w6.heap.size) k B2 g2 L X lg j8 PA8 BA8 BL8 base8 p8 w1.heap.size (yn) (wrap64 (line2 - 1)) depth2 (w8.drewN q) (by omega) (by omega) (HT8.out.sim ((Sim.refl _).drewN q)) HP8.out HB8.out (rowIs_sim HX8.out.2.1 ((Sim.refl _).drewN q))).mono ?_
                rintro e w10 ⟨rfl, q', rfl⟩
                go_wp2
                go_ret
                exact ⟨rfl, belowDrawn HX8.out.2.2 _⟩
end Go.Proofs.Qxb6628312a
