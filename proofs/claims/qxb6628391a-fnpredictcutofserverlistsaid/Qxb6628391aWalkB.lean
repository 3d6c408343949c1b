import Derived.Test.Qxb6628391aUnits
namespace Go.Proofs.Qxb6628391a
open Go.RowKit Go.Deep

theorem Row.cut {w : World} {A0 : Option Addr} {b off n k : Nat} {X : Nat → Int} (h : Row w A0 b off n X) (hk : k ≤ n) : Row w A0 b off k X :=
  ⟨fun q => h.nil (by omega), fun i hi => h.cell i (by omega)⟩
theorem Row.from {w : World} {A0 : Option Addr} {b off n k : Nat} {X : Nat → Int} (h : Row w A0 b off n X) (r : Nat) (hk : k + r ≤ n) : Row w (some ⟨b, off + k, none⟩) b (off + k) r (fun i => X (k + i)) :=
  ⟨fun _ => rfl, fun i hi => by rw [Nat.add_assoc]; exact h.cell (k + i) (by omega)⟩
theorem Row.zero (w : World) (A0 : Option Addr) (b off : Nat) (X : Nat → Int) : Row w A0 b off 0 X := ⟨fun q => by omega, fun i hi => by omega⟩

set_option maxHeartbeats 3200000 in
set_option maxRecDepth 100000 in
theorem walk2 (A0 : Option Addr) (b off n c : Nat) (X : Nat → Int) (A1 : Option Addr) (b1 off1 m c1 : Nat) (S : Nat → Int) (kk : Int) (w : World) (hn : n ≤ 9223372036854775807) (hm : m ≤ 9223372036854775807) (hc0 : A0 = none → c = 0) (h : Row w A0 b off n X) (h1 : Row w A1 b1 off1 m S) :
    Calls Try.prog 4 #[.slice A0 n c, .slice A1 m c1, .int .i64 kk] w fun e w' => e = .returned (.bool true) ∧ Below w.heap.size w w' := by
  have H : Hid (Row w A0 b off n X) := h
  have H1 : Hid (Row w A1 b1 off1 m S) := h1
  clear h h1
  have hq := fun (w : World) (a : Option Addr) (n c n' c' : Nat) => run_neq_slice_nil_any (P := Try.prog) w 22 23 a n c n' c' Try.underlying22
  go_enter Try.func4, Try.ntmps4
  go_wp2_with fail
  refine (bytes2_any A0 n c A1 m c1 kk w).mono ?_
  rintro e w' ⟨⟨r, rfl⟩, rfl⟩
  cases r with
  | false =>
    go_wp2
    go_ret
    exact ⟨rfl, Below.refl _ _⟩
  | true =>
    by_cases g1 : (4096 : Int) < n
    · go_wp2
      go_ret
      exact ⟨rfl, Below.refl _ _⟩
    by_cases g2 : (4096 : Int) < m
    · go_wp2
      go_ret
      exact ⟨rfl, Below.refl _ _⟩
    by_cases g3 : kk < 0
    · go_wp2
      go_ret
      exact ⟨rfl, Below.refl _ _⟩
    by_cases g4 : (n : Int) < kk
    · go_wp2
      go_ret
      exact ⟨rfl, Below.refl _ _⟩
    obtain ⟨k, rfl⟩ : ∃ k : Nat, kk = k := ⟨kk.toNat, by omega⟩
    have hkn : k ≤ n := by omega
    cases A0 with
    | none =>
      obtain rfl := hc0 rfl
      have hn0 : n = 0 := by
        by_cases h0 : n = 0
        · exact h0
        · have := H.out.nil (by omega)
          cases this
      subst hn0
      obtain rfl : k = 0 := by omega
      have HS : Hid (Row w A1 b1 off1 m S) := H1.out
      have HB : Hid (Below w.heap.size w w) := Below.refl _ _
      go_wp2_with fail
      refine (predict_any none b off 0 0 (X) A1 b1 off1 m c1 S w (by omega) (by omega) (Row.zero _ _ _ _ _) HS.out).mono ?_
      rintro e w' ⟨⟨ra, aok, rfl, hPa⟩, rfl⟩
      have HPa : Hid (Pred (X) (0) S m ra aok) := hPa
      clear hPa
      go_wp2_with fail
      refine (predict_any none b off 0 0 (fun i => X (0 + i)) A1 b1 off1 m c1 S w (by omega) (by omega) (Row.zero _ _ _ _ _) HS.out).mono ?_
      rintro e w' ⟨⟨rb, bok, rfl, hPb⟩, rfl⟩
      have HPb : Hid (Pred (fun i => X (0 + i)) (0 - 0) S m rb bok) := hPb
      clear hPb
      go_wp2_with fail
      refine (predict_any none b off 0 0 (X) A1 b1 off1 m c1 S w (by omega) (by omega) (Row.zero _ _ _ _ _) HS.out).mono ?_
      rintro e w' ⟨⟨rc, cok, rfl, hPc⟩, rfl⟩
      have HPc : Hid (Pred (X) (0) S m rc cok) := hPc
      clear hPc
      obtain ⟨hc1, hc2⟩ := cut_law (k := 0) (n := 0) (by omega) HPa.out HPb.out HPc.out
      clear HPa HPc
      subst hc1 hc2
      cases aok with
      | true =>
        go_wp2_with fail
        refine (predict_any none b off 0 0 (X) A1 b1 off1 m c1 S w (by omega) (by omega) (Row.zero _ _ _ _ _) HS.out).mono ?_
        rintro e w' ⟨⟨re, eok, rfl, hPe⟩, rfl⟩
        have HPe : Hid (Pred (X) (0) S m re eok) := hPe
        clear hPe
        obtain ⟨rfl, rfl⟩ := pred_empty HPe.out
        clear HPe
        clear HPb
        go_wp2
        go_ret
        exact ⟨rfl, HB.out⟩
      | false =>
        go_wp2_with fail
        refine (predict_any none b off 0 0 (X) A1 b1 off1 m c1 S w (by omega) (by omega) (Row.zero _ _ _ _ _) HS.out).mono ?_
        rintro e w' ⟨⟨re, eok, rfl, hPe⟩, rfl⟩
        have HPe : Hid (Pred (X) (0) S m re eok) := hPe
        clear hPe
        obtain ⟨rfl, rfl⟩ := pred_empty HPe.out
        clear HPe
        clear HPb
        go_wp2
        go_ret
        exact ⟨rfl, HB.out⟩
    | some a0 =>
      have hmc := run_make_row' (P := Try.prog) 22 23 (.int .u16 0) 2 Try.underlying22 info23 rfl .i64 .i64 n (by omega) (by omega)
      obtain ⟨w2, hcp, hr2, hb2⟩ := copy_ex w a0 b off n c X H.out
      have HL : Hid (Row w2 (some ⟨w.heap.size, 0, none⟩) w.heap.size 0 n X) := rowIs_Row hr2
      have HB : Hid (Below w.heap.size w w2) := hb2
      have HS : Hid (Row w2 A1 b1 off1 m S) := H1.out.below hb2
      clear hr2 hb2
      by_cases hkl : k = n
      · subst hkl
        go_wp2_with fail
        refine (predict_any (some ⟨w.heap.size, 0, none⟩) w.heap.size 0 k k (X) A1 b1 off1 m c1 S w2 (by omega) (by omega) (HL.out) HS.out).mono ?_
        rintro e w' ⟨⟨ra, aok, rfl, hPa⟩, rfl⟩
        have HPa : Hid (Pred (X) (k) S m ra aok) := hPa
        clear hPa
        go_wp2_with fail
        refine (predict_any (some ⟨w.heap.size, 0, none⟩) w.heap.size 0 0 0 (fun i => X (k + i)) A1 b1 off1 m c1 S w2 (by omega) (by omega) (Row.zero _ _ _ _ _) HS.out).mono ?_
        rintro e w' ⟨⟨rb, bok, rfl, hPb⟩, rfl⟩
        have HPb : Hid (Pred (fun i => X (k + i)) (k - k) S m rb bok) := by show Pred _ (k - k) _ _ _ _; rw [Nat.sub_self]; exact hPb
        clear hPb
        go_wp2_with fail
        refine (predict_any (some ⟨w.heap.size, 0, none⟩) w.heap.size 0 k k (X) A1 b1 off1 m c1 S w2 (by omega) (by omega) (HL.out) HS.out).mono ?_
        rintro e w' ⟨⟨rc, cok, rfl, hPc⟩, rfl⟩
        have HPc : Hid (Pred (X) (k) S m rc cok) := hPc
        clear hPc
        obtain ⟨hc1, hc2⟩ := cut_law (k := k) (n := k) (by omega) HPa.out HPb.out HPc.out
        clear HPa HPc
        subst hc1 hc2
        cases aok with
        | true =>
          go_wp2_with fail
          refine (predict_any (some ⟨w.heap.size, 0, none⟩) w.heap.size 0 0 0 (X) A1 b1 off1 m c1 S w2 (by omega) (by omega) (Row.zero _ _ _ _ _) HS.out).mono ?_
          rintro e w' ⟨⟨re, eok, rfl, hPe⟩, rfl⟩
          have HPe : Hid (Pred (X) (0) S m re eok) := hPe
          clear hPe
          obtain ⟨rfl, rfl⟩ := pred_empty HPe.out
          clear HPe
          clear HPb
          go_wp2
          go_ret
          exact ⟨rfl, HB.out⟩
        | false =>
          go_wp2_with fail
          refine (predict_any (some ⟨w.heap.size, 0, none⟩) w.heap.size 0 0 0 (X) A1 b1 off1 m c1 S w2 (by omega) (by omega) (Row.zero _ _ _ _ _) HS.out).mono ?_
          rintro e w' ⟨⟨re, eok, rfl, hPe⟩, rfl⟩
          have HPe : Hid (Pred (X) (0) S m re eok) := hPe
          clear hPe
          obtain ⟨rfl, rfl⟩ := pred_empty HPe.out
          clear HPe
          clear HPb
          go_wp2
          go_ret
          exact ⟨rfl, HB.out⟩
      · have hk1 : k < n := by omega
        have HK : Hid (Row w2 (some ⟨w.heap.size, k, none⟩) w.heap.size k (n - k) (fun i => X (k + i))) := by
          have := HL.out.from (k := k) (n - k) (by omega)
          rwa [Nat.zero_add] at this
        go_wp2_with fail
        refine (predict_any (some ⟨w.heap.size, 0, none⟩) w.heap.size 0 k n (X) A1 b1 off1 m c1 S w2 (by omega) (by omega) (HL.out.cut hkn) HS.out).mono ?_
        rintro e w' ⟨⟨ra, aok, rfl, hPa⟩, rfl⟩
        have HPa : Hid (Pred (X) (k) S m ra aok) := hPa
        clear hPa
        go_wp2_with fail
        refine (predict_any (some ⟨w.heap.size, k, none⟩) w.heap.size k (n - k) (n - k) (fun i => X (k + i)) A1 b1 off1 m c1 S w2 (by omega) (by omega) (HK.out) HS.out).mono ?_
        rintro e w' ⟨⟨rb, bok, rfl, hPb⟩, rfl⟩
        have HPb : Hid (Pred (fun i => X (k + i)) (n - k) S m rb bok) := hPb
        clear hPb
        go_wp2_with fail
        refine (predict_any (some ⟨w.heap.size, 0, none⟩) w.heap.size 0 n n (X) A1 b1 off1 m c1 S w2 (by omega) (by omega) (HL.out) HS.out).mono ?_
        rintro e w' ⟨⟨rc, cok, rfl, hPc⟩, rfl⟩
        have HPc : Hid (Pred (X) (n) S m rc cok) := hPc
        clear hPc
        obtain ⟨hc1, hc2⟩ := cut_law (k := k) (n := n) (by omega) HPa.out HPb.out HPc.out
        clear HPa HPc
        subst hc1 hc2
        cases aok with
        | true =>
          go_wp2_with fail
          refine (predict_any (some ⟨w.heap.size, k, none⟩) w.heap.size k 0 (n - k) (fun i => X (k + i)) A1 b1 off1 m c1 S w2 (by omega) (by omega) (Row.zero _ _ _ _ _) HS.out).mono ?_
          rintro e w' ⟨⟨re, eok, rfl, hPe⟩, rfl⟩
          have HPe : Hid (Pred (fun i => X (k + i)) (0) S m re eok) := hPe
          clear hPe
          obtain ⟨rfl, rfl⟩ := pred_empty HPe.out
          clear HPe
          have hck : w2.cell? ⟨w.heap.size, k, none⟩ = some (.int .u16 (X k)) := by have := HL.out.cell k hk1; rwa [Nat.zero_add] at this
          have hk2 : (k : Int) + 1 ≤ n := by omega
          go_wp2_with fail
          refine (predict_any (some ⟨w.heap.size, k, none⟩) w.heap.size k 1 (n - k) (fun i => X (k + i)) A1 b1 off1 m c1 S w2 (by omega) (by omega) (HK.out.cut (by omega)) HS.out).mono ?_
          rintro e w' ⟨⟨ro, ook, rfl, hPo⟩, rfl⟩
          have HPo : Hid (Pred (fun i => X (k + i)) (1) S m ro ook) := hPo
          clear hPo
          cases hbb : hasB S (X k) m with
          | true =>
            have HH : Hid (hasB S (X k) m = true) := hbb
            obtain ⟨ho1, ho2⟩ := one_yes HPo.out hbb
            obtain ⟨hb1, hb2⟩ := head_yes (by omega) HPb.out hbb
            simp only [Nat.add_zero] at ho1 hb1
            subst ho1 ho2 hb1 hb2
            clear HPo HPb hbb
            go_wp2_with fail
            refine (has_any A1 b1 off1 m c1 S (X k) w2 (by omega) HS.out).mono ?_
            rintro e w' ⟨he, rfl⟩
            rw [HH.out] at he
            subst he
            go_wp2
            go_ret
            exact ⟨rfl, HB.out⟩
          | false =>
            have HH : Hid (hasB S (X k) m = false) := hbb
            obtain ⟨ho1, ho2⟩ := one_no HPo.out hbb
            subst ho1 ho2
            clear HPo HPb hbb
            go_wp2_with fail
            refine (has_any A1 b1 off1 m c1 S (X k) w2 (by omega) HS.out).mono ?_
            rintro e w' ⟨he, rfl⟩
            rw [HH.out] at he
            subst he
            go_wp2
            go_ret
            exact ⟨rfl, HB.out⟩
        | false =>
          go_wp2_with fail
          refine (predict_any (some ⟨w.heap.size, k, none⟩) w.heap.size k 0 (n - k) (fun i => X (k + i)) A1 b1 off1 m c1 S w2 (by omega) (by omega) (Row.zero _ _ _ _ _) HS.out).mono ?_
          rintro e w' ⟨⟨re, eok, rfl, hPe⟩, rfl⟩
          have HPe : Hid (Pred (fun i => X (k + i)) (0) S m re eok) := hPe
          clear hPe
          obtain ⟨rfl, rfl⟩ := pred_empty HPe.out
          clear HPe
          have hck : w2.cell? ⟨w.heap.size, k, none⟩ = some (.int .u16 (X k)) := by have := HL.out.cell k hk1; rwa [Nat.zero_add] at this
          have hk2 : (k : Int) + 1 ≤ n := by omega
          go_wp2_with fail
          refine (predict_any (some ⟨w.heap.size, k, none⟩) w.heap.size k 1 (n - k) (fun i => X (k + i)) A1 b1 off1 m c1 S w2 (by omega) (by omega) (HK.out.cut (by omega)) HS.out).mono ?_
          rintro e w' ⟨⟨ro, ook, rfl, hPo⟩, rfl⟩
          have HPo : Hid (Pred (fun i => X (k + i)) (1) S m ro ook) := hPo
          clear hPo
          cases hbb : hasB S (X k) m with
          | true =>
            have HH : Hid (hasB S (X k) m = true) := hbb
            obtain ⟨ho1, ho2⟩ := one_yes HPo.out hbb
            obtain ⟨hb1, hb2⟩ := head_yes (by omega) HPb.out hbb
            simp only [Nat.add_zero] at ho1 hb1
            subst ho1 ho2 hb1 hb2
            clear HPo HPb hbb
            go_wp2_with fail
            refine (has_any A1 b1 off1 m c1 S (X k) w2 (by omega) HS.out).mono ?_
            rintro e w' ⟨he, rfl⟩
            rw [HH.out] at he
            subst he
            go_wp2
            go_ret
            exact ⟨rfl, HB.out⟩
          | false =>
            have HH : Hid (hasB S (X k) m = false) := hbb
            obtain ⟨ho1, ho2⟩ := one_no HPo.out hbb
            subst ho1 ho2
            clear HPo HPb hbb
            go_wp2_with fail
            refine (has_any A1 b1 off1 m c1 S (X k) w2 (by omega) HS.out).mono ?_
            rintro e w' ⟨he, rfl⟩
            rw [HH.out] at he
            subst he
            go_wp2
            go_ret
            exact ⟨rfl, HB.out⟩
end Go.Proofs.Qxb6628391a
