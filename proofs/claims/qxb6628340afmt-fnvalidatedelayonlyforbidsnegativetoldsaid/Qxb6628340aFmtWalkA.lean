import Derived.Test.Qxb6628340aFmtOk
namespace Go.Proofs.Qxb6628340aFmt
open Go.RowKit Go.Extern.Stop Go.Stop Go.Extern

set_option maxHeartbeats 3200000 in
set_option maxRecDepth 100000 in
theorem walk1 (F : Interp) (c b : ByteArray) (h : Bool) (st dl : Int) (w : World) (hF : F.answers w.tape) (hc : c.size ≤ 9223372036854775807) (hb : b.size ≤ 9223372036854775807) :
    Calls Tryf.prog 3 #[.string c, .bool h, .int .i64 st, .string b, .int .i64 dl] w fun e w' => e = .returned (.bool true) ∧ Below w.heap.size w w' := by
  go_enter Tryf.func3, Tryf.ntmps3
  go_wp2_with fail
  refine (bytes_any c b h st dl w hc hb).mono ?_
  rintro e w ⟨⟨r, hr⟩, rfl⟩
  have hr' := hr.out
  subst hr'
  cases r with
  | false =>
    go_wp2
    go_ret
    exact ⟨rfl, Below.refl _ _⟩
  | true =>
    have HFF : Hid (F.answers w.tape) := hF
    clear hF
    go_wp2_with fail
    · go_ret
      exact ⟨rfl, Below.refl _ _⟩
    · go_ret
      exact ⟨rfl, Below.refl _ _⟩
    · refine (build_any c b h st dl w).mono ?_
      rintro e w1 ⟨⟨p1, hp1, rfl⟩, hb1⟩
      have HP1 : Hid (p1.isSome = h) := hp1
      have HB1 : Hid (Below w.heap.size w w1) := hb1
      have hs1 := HB1.out.size
      clear hp1 hb1
      go_wp2_with fail
      refine (build_any c b h st 0 _).mono ?_
      rintro e w2 ⟨⟨p2, hp2, rfl⟩, hb2⟩
      have HP2 : Hid (p2.isSome = h) := hp2
      have HA1_2 : Hid (Ans w2 w1.heap.size p1 st dl b) := (Ans.new w1 p1 st dl b).below hb2
      have HB2 : Hid (Below w.heap.size w w2) := (HB1.out.alloc HB1.out.size _).trans (hb2.mono (by simp; omega))
      have hs2 := HB2.out.size
      clear hp2 hb2 HB1
      go_wp2_with fail
      refine (build_any c (⟨#[]⟩ : ByteArray) true 0 dl _).mono ?_
      rintro e w3 ⟨⟨p3, hp3, rfl⟩, hb3⟩
      have HP3 : Hid (p3.isSome = true) := hp3
      have HA1_3 : Hid (Ans w3 w1.heap.size p1 st dl b) := (HA1_2.out.alloc _).below hb3
      have HA2_3 : Hid (Ans w3 w2.heap.size p2 st 0 b) := (Ans.new w2 p2 st 0 b).below hb3
      have HB3 : Hid (Below w.heap.size w w3) := (HB2.out.alloc HB2.out.size _).trans (hb3.mono (by simp; omega))
      have hs3 := HB3.out.size
      clear hp3 hb3 HB2 HA1_2
      have l1 := HA1_3.out.lt
      have l2 := HA2_3.out.lt
      obtain ⟨c10, c11, c12, c13⟩ := HA1_3.out.cells
      obtain ⟨x1, hx1⟩ : ∃ x, okB h st b.toList.isEmpty dl = x := ⟨_, rfl⟩
      have HX1 : Hid (okB h st b.toList.isEmpty dl = x1) := hx1
      clear hx1
      go_wp2_with fail
      refine (ok_v F p1 st dl b _ ?_ x1 ?_).mono ?_
      · exact answers_below HFF.out (HB3.out.alloc hs3 _)
      · rw [HP1.out]; exact HX1.out
      rintro e v1 ⟨rfl, k1⟩
      have HC1 : Hid (Below w.heap.size w v1) := (HB3.out.alloc hs3 _).trans (k1.mono (by simp; omega))
      have HV2_1 : Hid (Ans v1 w2.heap.size p2 st 0 b) := (HA2_3.out.alloc _).below k1
      have HV3_1 : Hid (Ans v1 w3.heap.size p3 0 dl (⟨#[]⟩ : ByteArray)) := (Ans.new w3 p3 0 dl (⟨#[]⟩ : ByteArray)).below k1
      clear k1 c10 c11 c12 c13
      obtain ⟨c20, c21, c22, c23⟩ := HV2_1.out.cells
      obtain ⟨x2, hx2⟩ : ∃ x, okB h st b.toList.isEmpty 0 = x := ⟨_, rfl⟩
      have HX2 : Hid (okB h st b.toList.isEmpty 0 = x2) := hx2
      clear hx2
      go_wp2_with fail
      refine (ok_v F p2 st 0 b _ ?_ x2 ?_).mono ?_
      · exact answers_below HFF.out HC1.out
      · rw [HP2.out]; exact HX2.out
      rintro e v2 ⟨rfl, k2⟩
      have HC2 : Hid (Below w.heap.size w v2) := HC1.out.trans (k2.mono (HC1.out.size))
      have HV3_2 : Hid (Ans v2 w3.heap.size p3 0 dl (⟨#[]⟩ : ByteArray)) := HV3_1.out.below k2
      clear k2 c20 c21 c22 c23
      obtain ⟨c30, c31, c32, c33⟩ := HV3_2.out.cells
      obtain ⟨x3, hx3⟩ : ∃ x, okB true 0 (⟨#[]⟩ : ByteArray).toList.isEmpty dl = x := ⟨_, rfl⟩
      have HX3 : Hid (okB true 0 (⟨#[]⟩ : ByteArray).toList.isEmpty dl = x3) := hx3
      clear hx3
      go_wp2_with fail
      refine (ok_v F p3 0 dl (⟨#[]⟩ : ByteArray) _ ?_ x3 ?_).mono ?_
      · exact answers_below HFF.out HC2.out
      · rw [HP3.out]; exact HX3.out
      rintro e v3 ⟨rfl, k3⟩
      have HC3 : Hid (Below w.heap.size w v3) := HC2.out.trans (k3.mono (HC2.out.size))
      clear k3 c30 c31 c32 c33
      by_cases hd : 0 ≤ dl
      · obtain rfl : x2 = x1 := by rw [← HX1.out, ← HX2.out, okB_pos _ _ _ _ hd]
        obtain rfl : x3 = true := by rw [← HX3.out, okB_pos _ _ _ _ hd, okB_plain]
        clear HX1 HX2 HX3
        cases x2
        · go_wp2
          go_ret
          exact ⟨rfl, HC3.out⟩
        · go_wp2
          go_ret
          exact ⟨rfl, HC3.out⟩
      · have hd2 : decide (0 ≤ dl) = false := by simpa using hd
        obtain rfl : x1 = false := by rw [← HX1.out, okB_neg _ _ _ _ hd]
        obtain rfl : x3 = false := by rw [← HX3.out, okB_neg _ _ _ _ hd]
        clear HX1 HX2 HX3
        cases x2
        · go_wp2
          go_ret
          exact ⟨rfl, HC3.out⟩
        · go_wp2
          go_ret
          exact ⟨rfl, HC3.out⟩
end Go.Proofs.Qxb6628340aFmt
