import Derived.Test.Qxb6628340aFmtOk
namespace Go.Proofs.Qxb6628340aFmt
open Go.RowKit Go.Extern.Stop Go.Stop Go.Extern

theorem okB_nobody (st : Int) (be be' : Bool) (dl : Int) : okB false st be dl = okB false st be' dl := by simp [okB]
theorem okB_not (h : Bool) (st : Int) (be : Bool) (dl : Int) : (okB h st be dl && okB (!h) st be dl) = false := by
  cases h <;> by_cases h0 : st = 0 <;> simp [okB, h0]
theorem okB_full (st : Int) (dl : Int) : okB true st false dl = false := by simp [okB]

set_option maxHeartbeats 3200000 in
set_option maxRecDepth 100000 in
theorem walk2 (F : Interp) (c b : ByteArray) (h : Bool) (st dl : Int) (w : World) (hF : F.answers w.tape) (hc : c.size ≤ 9223372036854775807) (hb : b.size ≤ 9223372036854775807) :
    Calls Tryf.prog 4 #[.string c, .bool h, .int .i64 st, .string b, .int .i64 dl] w fun e w' => e = .returned (.bool true) ∧ Below w.heap.size w w' := by
  go_enter Tryf.func4, Tryf.ntmps4
  go_wp2_with fail
  refine (bytes2_any c b h st dl w hc hb).mono ?_
  rintro e w ⟨⟨r, hr⟩, rfl⟩
  have hr' := hr.out
  subst hr'
  cases r with
  | false =>
    go_wp2
    go_ret
    exact ⟨rfl, Below.refl _ _⟩
  | true =>
    have HFF : Hid (F.answers w.tape) := hF
    clear hF
    go_wp2_with fail
    · go_ret
      exact ⟨rfl, Below.refl _ _⟩
    · go_ret
      exact ⟨rfl, Below.refl _ _⟩
    · refine (build_any c b h st dl w).mono ?_
      rintro e w1 ⟨⟨p1, hp1, rfl⟩, hb1⟩
      have HP1 : Hid (p1.isSome = h) := hp1
      have HB1 : Hid (Below w.heap.size w w1) := hb1
      have hs1 := HB1.out.size
      clear hp1 hb1
      go_wp2_with fail
      refine (build_any c b (!h) st dl _).mono ?_
      rintro e w2 ⟨⟨p2, hp2, rfl⟩, hb2⟩
      have HP2 : Hid (p2.isSome = (!h)) := hp2
      have HA1_2 : Hid (Ans w2 w1.heap.size p1 st dl b) := (Ans.new w1 p1 st dl b).below hb2
      have HB2 : Hid (Below w.heap.size w w2) := (HB1.out.alloc HB1.out.size _).trans (hb2.mono (by simp; omega))
      have hs2 := HB2.out.size
      clear hp2 hb2 HB1
      go_wp2_with fail
      refine (build_any c b false st dl _).mono ?_
      rintro e w3 ⟨⟨p3, hp3, rfl⟩, hb3⟩
      have HP3 : Hid (p3.isSome = false) := hp3
      have HA1_3 : Hid (Ans w3 w1.heap.size p1 st dl b) := (HA1_2.out.alloc _).below hb3
      have HA2_3 : Hid (Ans w3 w2.heap.size p2 st dl b) := (Ans.new w2 p2 st dl b).below hb3
      have HB3 : Hid (Below w.heap.size w w3) := (HB2.out.alloc HB2.out.size _).trans (hb3.mono (by simp; omega))
      have hs3 := HB3.out.size
      clear hp3 hb3 HB2 HA1_2
      go_wp2_with fail
      refine (build_any c (⟨#[]⟩ : ByteArray) false st dl _).mono ?_
      rintro e w4 ⟨⟨p4, hp4, rfl⟩, hb4⟩
      have HP4 : Hid (p4.isSome = false) := hp4
      have HA1_4 : Hid (Ans w4 w1.heap.size p1 st dl b) := (HA1_3.out.alloc _).below hb4
      have HA2_4 : Hid (Ans w4 w2.heap.size p2 st dl b) := (HA2_3.out.alloc _).below hb4
      have HA3_4 : Hid (Ans w4 w3.heap.size p3 st dl b) := (Ans.new w3 p3 st dl b).below hb4
      have HB4 : Hid (Below w.heap.size w w4) := (HB3.out.alloc HB3.out.size _).trans (hb4.mono (by simp; omega))
      have hs4 := HB4.out.size
      clear hp4 hb4 HB3 HA1_3 HA2_3
      go_wp2_with fail
      refine (build_any c b true 0 dl _).mono ?_
      rintro e w5 ⟨⟨p5, hp5, rfl⟩, hb5⟩
      have HP5 : Hid (p5.isSome = true) := hp5
      have HA1_5 : Hid (Ans w5 w1.heap.size p1 st dl b) := (HA1_4.out.alloc _).below hb5
      have HA2_5 : Hid (Ans w5 w2.heap.size p2 st dl b) := (HA2_4.out.alloc _).below hb5
      have HA3_5 : Hid (Ans w5 w3.heap.size p3 st dl b) := (HA3_4.out.alloc _).below hb5
      have HA4_5 : Hid (Ans w5 w4.heap.size p4 st dl (⟨#[]⟩ : ByteArray)) := (Ans.new w4 p4 st dl (⟨#[]⟩ : ByteArray)).below hb5
      have HB5 : Hid (Below w.heap.size w w5) := (HB4.out.alloc HB4.out.size _).trans (hb5.mono (by simp; omega))
      have hs5 := HB5.out.size
      clear hp5 hb5 HB4 HA1_4 HA2_4 HA3_4
      go_wp2_with fail
      refine (build_any c (⟨#[]⟩ : ByteArray) true 0 dl _).mono ?_
      rintro e w6 ⟨⟨p6, hp6, rfl⟩, hb6⟩
      have HP6 : Hid (p6.isSome = true) := hp6
      have HA1_6 : Hid (Ans w6 w1.heap.size p1 st dl b) := (HA1_5.out.alloc _).below hb6
      have HA2_6 : Hid (Ans w6 w2.heap.size p2 st dl b) := (HA2_5.out.alloc _).below hb6
      have HA3_6 : Hid (Ans w6 w3.heap.size p3 st dl b) := (HA3_5.out.alloc _).below hb6
      have HA4_6 : Hid (Ans w6 w4.heap.size p4 st dl (⟨#[]⟩ : ByteArray)) := (HA4_5.out.alloc _).below hb6
      have HA5_6 : Hid (Ans w6 w5.heap.size p5 0 dl b) := (Ans.new w5 p5 0 dl b).below hb6
      have HB6 : Hid (Below w.heap.size w w6) := (HB5.out.alloc HB5.out.size _).trans (hb6.mono (by simp; omega))
      have hs6 := HB6.out.size
      clear hp6 hb6 HB5 HA1_5 HA2_5 HA3_5 HA4_5
      have l1 := HA1_6.out.lt
      have l2 := HA2_6.out.lt
      have l3 := HA3_6.out.lt
      have l4 := HA4_6.out.lt
      have l5 := HA5_6.out.lt
      obtain ⟨c10, c11, c12, c13⟩ := HA1_6.out.cells
      obtain ⟨x1, hx1⟩ : ∃ x, okB h st b.toList.isEmpty dl = x := ⟨_, rfl⟩
      have HX1 : Hid (okB h st b.toList.isEmpty dl = x1) := hx1
      clear hx1
      go_wp2_with fail
      refine (ok_v F p1 st dl b _ ?_ x1 ?_).mono ?_
      · exact answers_below HFF.out (HB6.out.alloc hs6 _)
      · rw [HP1.out]; exact HX1.out
      rintro e v1 ⟨rfl, k1⟩
      have HC1 : Hid (Below w.heap.size w v1) := (HB6.out.alloc hs6 _).trans (k1.mono (by simp; omega))
      have HV2_1 : Hid (Ans v1 w2.heap.size p2 st dl b) := (HA2_6.out.alloc _).below k1
      have HV3_1 : Hid (Ans v1 w3.heap.size p3 st dl b) := (HA3_6.out.alloc _).below k1
      have HV4_1 : Hid (Ans v1 w4.heap.size p4 st dl (⟨#[]⟩ : ByteArray)) := (HA4_6.out.alloc _).below k1
      have HV5_1 : Hid (Ans v1 w5.heap.size p5 0 dl b) := (HA5_6.out.alloc _).below k1
      have HV6_1 : Hid (Ans v1 w6.heap.size p6 0 dl (⟨#[]⟩ : ByteArray)) := (Ans.new w6 p6 0 dl (⟨#[]⟩ : ByteArray)).below k1
      clear k1 c10 c11 c12 c13
      obtain ⟨c20, c21, c22, c23⟩ := HV2_1.out.cells
      obtain ⟨x2, hx2⟩ : ∃ x, okB (!h) st b.toList.isEmpty dl = x := ⟨_, rfl⟩
      have HX2 : Hid (okB (!h) st b.toList.isEmpty dl = x2) := hx2
      clear hx2
      go_wp2_with fail
      refine (ok_v F p2 st dl b _ ?_ x2 ?_).mono ?_
      · exact answers_below HFF.out HC1.out
      · rw [HP2.out]; exact HX2.out
      rintro e v2 ⟨rfl, k2⟩
      have HC2 : Hid (Below w.heap.size w v2) := HC1.out.trans (k2.mono (HC1.out.size))
      have HV3_2 : Hid (Ans v2 w3.heap.size p3 st dl b) := HV3_1.out.below k2
      have HV4_2 : Hid (Ans v2 w4.heap.size p4 st dl (⟨#[]⟩ : ByteArray)) := HV4_1.out.below k2
      have HV5_2 : Hid (Ans v2 w5.heap.size p5 0 dl b) := HV5_1.out.below k2
      have HV6_2 : Hid (Ans v2 w6.heap.size p6 0 dl (⟨#[]⟩ : ByteArray)) := HV6_1.out.below k2
      clear k2 c20 c21 c22 c23
      obtain ⟨c30, c31, c32, c33⟩ := HV3_2.out.cells
      obtain ⟨x3, hx3⟩ : ∃ x, okB false st b.toList.isEmpty dl = x := ⟨_, rfl⟩
      have HX3 : Hid (okB false st b.toList.isEmpty dl = x3) := hx3
      clear hx3
      go_wp2_with fail
      refine (ok_v F p3 st dl b _ ?_ x3 ?_).mono ?_
      · exact answers_below HFF.out HC2.out
      · rw [HP3.out]; exact HX3.out
      rintro e v3 ⟨rfl, k3⟩
      have HC3 : Hid (Below w.heap.size w v3) := HC2.out.trans (k3.mono (HC2.out.size))
      have HV4_3 : Hid (Ans v3 w4.heap.size p4 st dl (⟨#[]⟩ : ByteArray)) := HV4_2.out.below k3
      have HV5_3 : Hid (Ans v3 w5.heap.size p5 0 dl b) := HV5_2.out.below k3
      have HV6_3 : Hid (Ans v3 w6.heap.size p6 0 dl (⟨#[]⟩ : ByteArray)) := HV6_2.out.below k3
      clear k3 c30 c31 c32 c33
      obtain ⟨c40, c41, c42, c43⟩ := HV4_3.out.cells
      obtain ⟨x4, hx4⟩ : ∃ x, okB false st (⟨#[]⟩ : ByteArray).toList.isEmpty dl = x := ⟨_, rfl⟩
      have HX4 : Hid (okB false st (⟨#[]⟩ : ByteArray).toList.isEmpty dl = x4) := hx4
      clear hx4
      go_wp2_with fail
      refine (ok_v F p4 st dl (⟨#[]⟩ : ByteArray) _ ?_ x4 ?_).mono ?_
      · exact answers_below HFF.out HC3.out
      · rw [HP4.out]; exact HX4.out
      rintro e v4 ⟨rfl, k4⟩
      have HC4 : Hid (Below w.heap.size w v4) := HC3.out.trans (k4.mono (HC3.out.size))
      have HV5_4 : Hid (Ans v4 w5.heap.size p5 0 dl b) := HV5_3.out.below k4
      have HV6_4 : Hid (Ans v4 w6.heap.size p6 0 dl (⟨#[]⟩ : ByteArray)) := HV6_3.out.below k4
      clear k4 c40 c41 c42 c43
      obtain ⟨c50, c51, c52, c53⟩ := HV5_4.out.cells
      obtain ⟨x5, hx5⟩ : ∃ x, okB true 0 b.toList.isEmpty dl = x := ⟨_, rfl⟩
      have HX5 : Hid (okB true 0 b.toList.isEmpty dl = x5) := hx5
      clear hx5
      go_wp2_with fail
      refine (ok_v F p5 0 dl b _ ?_ x5 ?_).mono ?_
      · exact answers_below HFF.out HC4.out
      · rw [HP5.out]; exact HX5.out
      rintro e v5 ⟨rfl, k5⟩
      have HC5 : Hid (Below w.heap.size w v5) := HC4.out.trans (k5.mono (HC4.out.size))
      have HV6_5 : Hid (Ans v5 w6.heap.size p6 0 dl (⟨#[]⟩ : ByteArray)) := HV6_4.out.below k5
      clear k5 c50 c51 c52 c53
      obtain ⟨c60, c61, c62, c63⟩ := HV6_5.out.cells
      obtain ⟨x6, hx6⟩ : ∃ x, okB true 0 (⟨#[]⟩ : ByteArray).toList.isEmpty dl = x := ⟨_, rfl⟩
      have HX6 : Hid (okB true 0 (⟨#[]⟩ : ByteArray).toList.isEmpty dl = x6) := hx6
      clear hx6
      go_wp2_with fail
      refine (ok_v F p6 0 dl (⟨#[]⟩ : ByteArray) _ ?_ x6 ?_).mono ?_
      · exact answers_below HFF.out HC5.out
      · rw [HP6.out]; exact HX6.out
      rintro e v6 ⟨rfl, k6⟩
      have HC6 : Hid (Below w.heap.size w v6) := HC5.out.trans (k6.mono (HC5.out.size))
      clear k6 c60 c61 c62 c63
      have hA : (x1 && x2) = false := by rw [← HX1.out, ← HX2.out]; exact okB_not _ _ _ _
      obtain rfl : x4 = x3 := by rw [← HX3.out, ← HX4.out]; exact okB_nobody _ _ _ _
      by_cases hbe : b.toList.isEmpty = true
      · obtain rfl : x5 = x6 := by rw [← HX5.out, ← HX6.out, hbe, empty_is]
        clear HX1 HX2 HX3 HX4 HX5 HX6
        cases x1 <;> cases x2 <;> cases x4 <;> cases x5 <;> first | (exact absurd hA (by decide)) | (clear hA; go_wp2; go_ret; exact ⟨rfl, HC6.out⟩)
      · have hbf : b.toList.isEmpty = false := by simpa using hbe
        obtain rfl : x5 = false := by rw [← HX5.out, hbf]; exact okB_full _ _
        clear HX1 HX2 HX3 HX4 HX5 HX6
        cases x1 <;> cases x2 <;> cases x4 <;> cases x6 <;> first | (exact absurd hA (by decide)) | (clear hA; go_wp2; go_ret; exact ⟨rfl, HC6.out⟩)
end Go.Proofs.Qxb6628340aFmt
