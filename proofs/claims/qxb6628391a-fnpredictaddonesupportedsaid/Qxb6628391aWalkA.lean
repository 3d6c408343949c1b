import Derived.Test.Qxb6628391aUnits
namespace Go.Proofs.Qxb6628391a
open Go.RowKit Go.Deep

/-- The new list of supported groups, j of its m + 1 places filled. -/
structure Mk (W wr : World) (m : Nat) (f : Nat → Int) (j : Nat) : Prop where
  below : Below W.heap.size W wr
  row : wr.rowIs W.heap.size 23 (m + 1) (fun i => if i < j then .int .u16 (f i) else .int .u16 0)

theorem mk_start (W : World) (m : Nat) (f : Nat → Int) : Mk W (W.alloc (.cells (madeCells #[.int .u16 0] (m + 1)) 23)) m f 0 :=
  ⟨(Below.refl _ _).alloc (Nat.le_refl _) _, (World.rowIs_made W _ (m + 1) 23).congr (fun i _ => by simp)⟩
theorem mk_step {W wr : World} {m : Nat} {f : Nat → Int} {j : Nat} (h : Mk W wr m f j) : Mk W (wr.setCell ⟨W.heap.size, j, none⟩ (.int .u16 (f j))) m f (j + 1) := by
  refine ⟨h.below.setCell (Nat.le_refl _) _, (h.row.set j _).congr (fun i _ => ?_)⟩
  by_cases e : i = j
  · subst e; simp
  · rw [if_neg e]
    by_cases hlt : i < j
    · rw [if_pos hlt, if_pos (by omega)]
    · rw [if_neg hlt, if_neg (by omega)]
theorem mk_row {W wr : World} {m : Nat} {f : Nat → Int} (h : Mk W wr m f (m + 1)) : Row wr (some ⟨W.heap.size, 0, none⟩) W.heap.size 0 (m + 1) f :=
  rowIs_Row (h.row.congr (fun i hi => by rw [if_pos hi]))
theorem ins_left (S : Nat → Int) (x : Int) {k j : Nat} (h : j < k) : ins S k x j = S j := by unfold ins; rw [if_pos h]
theorem ins_at (S : Nat → Int) (x : Int) (k : Nat) : ins S k x k = x := by unfold ins; rw [if_neg (by omega), if_pos rfl]
theorem ins_right (S : Nat → Int) (x : Int) {k q : Nat} (h : k < q + 1) : ins S k x (q + 1) = S q := by
  unfold ins
  rw [if_neg (by omega), if_neg (by omega)]
  rfl

set_option maxHeartbeats 3200000 in
set_option maxRecDepth 100000 in
theorem walk1 (A0 : Option Addr) (b off n c : Nat) (X : Nat → Int) (A1 : Option Addr) (b1 off1 m c1 : Nat) (S : Nat → Int) (x kk : Int) (w : World) (hn : n ≤ 9223372036854775807) (hm : m ≤ 9223372036854775807) (h : Row w A0 b off n X) (h1 : Row w A1 b1 off1 m S) :
    Calls Try.prog 3 #[.slice A0 n c, .slice A1 m c1, .int .u16 x, .int .i64 kk] w fun e w' => e = .returned (.bool true) ∧ Below w.heap.size w w' := by
  have H : Hid (Row w A0 b off n X) := h
  have H1 : Hid (Row w A1 b1 off1 m S) := h1
  clear h h1
  have hq := fun (w : World) (a : Option Addr) (n c n' c' : Nat) => run_neq_slice_nil_any (P := Try.prog) w 22 23 a n c n' c' Try.underlying22
  go_enter Try.func3, Try.ntmps3
  go_wp2_with fail
  refine (bytes_any A0 n c A1 m c1 x kk w).mono ?_
  rintro e w' ⟨⟨r, rfl⟩, rfl⟩
  cases r with
  | false =>
    go_wp2
    go_ret
    exact ⟨rfl, Below.refl _ _⟩
  | true =>
    by_cases g1 : (4096 : Int) < n
    · go_wp2
      go_ret
      exact ⟨rfl, Below.refl _ _⟩
    by_cases g2 : (4096 : Int) < m
    · go_wp2
      go_ret
      exact ⟨rfl, Below.refl _ _⟩
    by_cases g3 : kk < 0
    · go_wp2
      go_ret
      exact ⟨rfl, Below.refl _ _⟩
    by_cases g4 : (m : Int) < kk
    · go_wp2
      go_ret
      exact ⟨rfl, Below.refl _ _⟩
    obtain ⟨k, rfl⟩ : ∃ k : Nat, kk = k := ⟨kk.toNat, by omega⟩
    have hkm : k ≤ m := by omega
    have ec : ((m + 1 : Nat) : Int) = (m : Int) + 1 := by omega
    have hmk : ∀ w, (Instr.makeSlice 22 (.int .i64 ((m : Int) + 1)) (.int .i64 ((m : Int) + 1))).run Try.prog w = .ok (.slice (some ⟨w.heap.size, 0, none⟩) (m + 1) (m + 1)) (w.alloc (.cells (madeCells #[.int .u16 0] (m + 1)) 23)) := fun w => by
      rw [← ec]
      exact run_make_row' (P := Try.prog) 22 23 (.int .u16 0) 2 Try.underlying22 info23 rfl .i64 .i64 (m + 1) (by omega) (by omega) w
    clear ec
    cases A0 with
    | none =>
      have hn0 : n = 0 := by
        by_cases h0 : n = 0
        · exact h0
        · have := H.out.nil (by omega)
          cases this
      subst hn0
      have HL : Hid (Row w none b off 0 X) := H.out
      have HS : Hid (Row w A1 b1 off1 m S) := H1.out
      have HB : Hid (Below w.heap.size w w) := Below.refl _ _
      have hsz := HB.out.size
      go_wp2_with fail
      refine (predict_any none b off 0 c X A1 b1 off1 m c1 S w (by omega) (by omega) HL.out HS.out).mono ?_
      rintro e w' ⟨⟨g0, ok0, rfl, hP0⟩, rfl⟩
      have HP0 : Hid (Pred X 0 S m g0 ok0) := hP0
      clear hP0
      go_wp2
      clear hmk
      go_loopg [13] k (fun gk i wr => ∃ j : Nat, j ≤ k ∧ gk = k - j ∧ i = .int .i64 j ∧ Mk w wr m (ins S k x) j)
      case atStart => exact ⟨0, Nat.zero_le _, rfl, rfl, mk_start w m _⟩
      case round =>
        obtain ⟨j, hj, rfl, rfl, hM⟩ := hrel
        by_cases hjk : j < k
        · have e := HS.out.nil (by omega)
          subst e
          have hc1 : wr.cell? ⟨b1, off1 + j, none⟩ = some (.int .u16 (S j)) := (HS.out.below hM.below).cell j (by omega)
          have hc2 : wr.cell? ⟨w.heap.size, j, none⟩ = some (.int .u16 0) := by simpa using hM.row.cell (i := j) (by omega)
          have hc3 : wr.frozen? ⟨w.heap.size, j, none⟩ = false := hM.row.frozen j
          have i1 : (j : Int) < m := by omega
          have HM : Hid (Mk w (wr.setCell ⟨w.heap.size, j, none⟩ (.int .u16 (S j))) m (ins S k x) (j + 1)) := by
            have := mk_step hM
            rwa [ins_left S x hjk] at this
          clear hM
          go_wp2
          go_roundg (k - (j + 1))
          case measure => omega
          case rel => exact ⟨j + 1, by omega, rfl, by go_num, HM.out⟩
        · obtain rfl : j = k := by omega
          have hc2 : wr.cell? ⟨w.heap.size, j, none⟩ = some (.int .u16 0) := by simpa using hM.row.cell (i := j) (by omega)
          have hc3 : wr.frozen? ⟨w.heap.size, j, none⟩ = false := hM.row.frozen j
          have i1 : (j : Int) < (m : Int) + 1 := by omega
          have HM : Hid (Mk w (wr.setCell ⟨w.heap.size, j, none⟩ (.int .u16 x)) m (ins S j x) (j + 1)) := by
            have := mk_step hM
            rwa [ins_at] at this
          clear hM
          go_wp2
          clear hc2 hc3
          obtain ⟨wo, rfl⟩ : ∃ wo : World, wo = wr := ⟨_, rfl⟩
          go_loopg [14] (m - j) (fun gk i wr => ∃ q : Nat, j ≤ q ∧ q ≤ m ∧ gk = m - q ∧ i = .int .i64 q ∧ Mk w wr m (ins S j x) (q + 1))
          case atStart => exact ⟨j, Nat.le_refl _, by omega, rfl, rfl, HM.out⟩
          case round =>
            obtain ⟨q, hjq, hqm, rfl, rfl, hM⟩ := hrel
            clear HM
            by_cases hql : q < m
            · have e := HS.out.nil (by omega)
              subst e
              have hc1 : wr.cell? ⟨b1, off1 + q, none⟩ = some (.int .u16 (S q)) := (HS.out.below hM.below).cell q (by omega)
              have hc2 : wr.cell? ⟨w.heap.size, q + 1, none⟩ = some (.int .u16 0) := by simpa using hM.row.cell (i := q + 1) (by omega)
              have hc3 : wr.frozen? ⟨w.heap.size, q + 1, none⟩ = false := hM.row.frozen _
              have i1 : (q : Int) < m := by omega
              have HM : Hid (Mk w (wr.setCell ⟨w.heap.size, q + 1, none⟩ (.int .u16 (S q))) m (ins S j x) (q + 1 + 1)) := by
                have := mk_step hM
                rwa [ins_right S x (show j < q + 1 by omega)] at this
              clear hM
              go_wp2
              go_roundg (m - (q + 1))
              case measure => omega
              case rel => exact ⟨q + 1, by omega, by omega, rfl, by go_num, HM.out⟩
            · obtain rfl : q = m := by omega
              have HR : Hid (Row wr (some ⟨w.heap.size, 0, none⟩) w.heap.size 0 (q + 1) (ins S j x)) := mk_row hM
              have HLr : Hid (Row wr none b off 0 X) := HL.out.below hM.below
              have HBr : Hid (Below w.heap.size w wr) := HB.out.trans (hM.below.mono hsz)
              clear hM HL HS HB
              go_wp2_with fail
              refine (predict_any none b off 0 c X (some ⟨w.heap.size, 0, none⟩) w.heap.size 0 (q + 1) (q + 1) (ins S j x) wr (by omega) (by omega) HLr.out HR.out).mono ?_
              rintro e w' ⟨⟨g1, ok1, rfl, hP1⟩, rfl⟩
              have HP1 : Hid (Pred X 0 (ins S j x) (q + 1) g1 ok1) := hP1
              clear hP1 HR
              go_wp2_with fail
              refine (first_any none b off 0 c X x wr (by omega) HLr.out).mono ?_
              rintro e w' ⟨⟨ix, rfl, hF⟩, rfl⟩
              have HF : Hid (First X 0 x ix) := hF
              clear hF
              by_cases hix : ix < 0
              · obtain ⟨rfl, rfl⟩ := add_out (by omega) HP0.out HP1.out HF.out (by omega)
                clear HP0 HP1 HF
                go_wp2_with fail
                refine (predict_any none b off 0 c X none 0 0 0 0 (fun _ => 0) wr (by omega) (by omega) HLr.out ⟨fun h => by omega, fun i h => by omega⟩).mono ?_
                rintro e w' ⟨⟨gn, okn, rfl, hPn⟩, rfl⟩
                obtain ⟨rfl, rfl⟩ := pred_none hPn
                clear hPn
                go_wp2
                go_ret
                exact ⟨rfl, HBr.out⟩
              · cases ok0 with
                | false =>
                  obtain ⟨rfl, rfl⟩ := add_new (by omega) HP0.out HP1.out HF.out (by omega)
                  clear HP0 HP1 HF
                  go_wp2_with fail
                  refine (predict_any none b off 0 c X none 0 0 0 0 (fun _ => 0) wr (by omega) (by omega) HLr.out ⟨fun h => by omega, fun i h => by omega⟩).mono ?_
                  rintro e w' ⟨⟨gn, okn, rfl, hPn⟩, rfl⟩
                  obtain ⟨rfl, rfl⟩ := pred_none hPn
                  clear hPn
                  go_wp2
                  go_ret
                  exact ⟨rfl, HBr.out⟩
                | true =>
                  go_wp2_with fail
                  refine (first_any none b off 0 c X g0 wr (by omega) HLr.out).mono ?_
                  rintro e w' ⟨⟨iy, rfl, hG⟩, rfl⟩
                  by_cases hlt : ix < iy
                  · obtain ⟨rfl, rfl⟩ := add_before (by omega) HP0.out HP1.out HF.out hG (by omega) (by omega)
                    clear HP0 HP1 HF hG
                    go_wp2_with fail
                    refine (predict_any none b off 0 c X none 0 0 0 0 (fun _ => 0) wr (by omega) (by omega) HLr.out ⟨fun h => by omega, fun i h => by omega⟩).mono ?_
                    rintro e w' ⟨⟨gn, okn, rfl, hPn⟩, rfl⟩
                    obtain ⟨rfl, rfl⟩ := pred_none hPn
                    clear hPn
                    go_wp2
                    go_ret
                    exact ⟨rfl, HBr.out⟩
                  · obtain ⟨rfl, rfl⟩ := add_behind (by omega) HP0.out HP1.out HF.out hG (by omega) (by omega)
                    clear HP0 HP1 HF hG
                    go_wp2_with fail
                    refine (predict_any none b off 0 c X none 0 0 0 0 (fun _ => 0) wr (by omega) (by omega) HLr.out ⟨fun h => by omega, fun i h => by omega⟩).mono ?_
                    rintro e w' ⟨⟨gn, okn, rfl, hPn⟩, rfl⟩
                    obtain ⟨rfl, rfl⟩ := pred_none hPn
                    clear hPn
                    go_wp2
                    go_ret
                    exact ⟨rfl, HBr.out⟩
    | some a0 =>
      have hmc := run_make_row' (P := Try.prog) 22 23 (.int .u16 0) 2 Try.underlying22 info23 rfl .i64 .i64 n (by omega) (by omega)
      obtain ⟨w2, hcp, hr2, hb2⟩ := copy_ex w a0 b off n c X H.out
      have HR2 : Hid (w2.rowIs w.heap.size 23 n (fun i => .int .u16 (X i))) := hr2
      have HB2 : Hid (Below w.heap.size w w2) := hb2
      clear hr2 hb2
      have HL : Hid (Row w2 (some ⟨w.heap.size, 0, none⟩) w.heap.size 0 n X) := rowIs_Row HR2.out
      have HS : Hid (Row w2 A1 b1 off1 m S) := H1.out.below HB2.out
      have HB : Hid (Below w.heap.size w w2) := HB2.out
      have hsz := HB.out.size
      go_wp2_with fail
      refine (predict_any (some ⟨w.heap.size, 0, none⟩) w.heap.size 0 n n X A1 b1 off1 m c1 S w2 (by omega) (by omega) HL.out HS.out).mono ?_
      rintro e w' ⟨⟨g0, ok0, rfl, hP0⟩, rfl⟩
      have HP0 : Hid (Pred X n S m g0 ok0) := hP0
      clear hP0
      go_wp2
      clear hmk
      go_loopg [13] k (fun gk i wr => ∃ j : Nat, j ≤ k ∧ gk = k - j ∧ i = .int .i64 j ∧ Mk w2 wr m (ins S k x) j)
      case atStart => exact ⟨0, Nat.zero_le _, rfl, rfl, mk_start w2 m _⟩
      case round =>
        obtain ⟨j, hj, rfl, rfl, hM⟩ := hrel
        by_cases hjk : j < k
        · have e := HS.out.nil (by omega)
          subst e
          have hc1 : wr.cell? ⟨b1, off1 + j, none⟩ = some (.int .u16 (S j)) := (HS.out.below hM.below).cell j (by omega)
          have hc2 : wr.cell? ⟨w2.heap.size, j, none⟩ = some (.int .u16 0) := by simpa using hM.row.cell (i := j) (by omega)
          have hc3 : wr.frozen? ⟨w2.heap.size, j, none⟩ = false := hM.row.frozen j
          have i1 : (j : Int) < m := by omega
          have HM : Hid (Mk w2 (wr.setCell ⟨w2.heap.size, j, none⟩ (.int .u16 (S j))) m (ins S k x) (j + 1)) := by
            have := mk_step hM
            rwa [ins_left S x hjk] at this
          clear hM
          go_wp2
          go_roundg (k - (j + 1))
          case measure => omega
          case rel => exact ⟨j + 1, by omega, rfl, by go_num, HM.out⟩
        · obtain rfl : j = k := by omega
          have hc2 : wr.cell? ⟨w2.heap.size, j, none⟩ = some (.int .u16 0) := by simpa using hM.row.cell (i := j) (by omega)
          have hc3 : wr.frozen? ⟨w2.heap.size, j, none⟩ = false := hM.row.frozen j
          have i1 : (j : Int) < (m : Int) + 1 := by omega
          have HM : Hid (Mk w2 (wr.setCell ⟨w2.heap.size, j, none⟩ (.int .u16 x)) m (ins S j x) (j + 1)) := by
            have := mk_step hM
            rwa [ins_at] at this
          clear hM
          go_wp2
          clear hc2 hc3
          obtain ⟨wo, rfl⟩ : ∃ wo : World, wo = wr := ⟨_, rfl⟩
          go_loopg [14] (m - j) (fun gk i wr => ∃ q : Nat, j ≤ q ∧ q ≤ m ∧ gk = m - q ∧ i = .int .i64 q ∧ Mk w2 wr m (ins S j x) (q + 1))
          case atStart => exact ⟨j, Nat.le_refl _, by omega, rfl, rfl, HM.out⟩
          case round =>
            obtain ⟨q, hjq, hqm, rfl, rfl, hM⟩ := hrel
            clear HM
            by_cases hql : q < m
            · have e := HS.out.nil (by omega)
              subst e
              have hc1 : wr.cell? ⟨b1, off1 + q, none⟩ = some (.int .u16 (S q)) := (HS.out.below hM.below).cell q (by omega)
              have hc2 : wr.cell? ⟨w2.heap.size, q + 1, none⟩ = some (.int .u16 0) := by simpa using hM.row.cell (i := q + 1) (by omega)
              have hc3 : wr.frozen? ⟨w2.heap.size, q + 1, none⟩ = false := hM.row.frozen _
              have i1 : (q : Int) < m := by omega
              have HM : Hid (Mk w2 (wr.setCell ⟨w2.heap.size, q + 1, none⟩ (.int .u16 (S q))) m (ins S j x) (q + 1 + 1)) := by
                have := mk_step hM
                rwa [ins_right S x (show j < q + 1 by omega)] at this
              clear hM
              go_wp2
              go_roundg (m - (q + 1))
              case measure => omega
              case rel => exact ⟨q + 1, by omega, by omega, rfl, by go_num, HM.out⟩
            · obtain rfl : q = m := by omega
              have HR : Hid (Row wr (some ⟨w2.heap.size, 0, none⟩) w2.heap.size 0 (q + 1) (ins S j x)) := mk_row hM
              have HLr : Hid (Row wr (some ⟨w.heap.size, 0, none⟩) w.heap.size 0 n X) := HL.out.below hM.below
              have HBr : Hid (Below w.heap.size w wr) := HB.out.trans (hM.below.mono hsz)
              clear hM HL HS HB
              go_wp2_with fail
              refine (predict_any (some ⟨w.heap.size, 0, none⟩) w.heap.size 0 n n X (some ⟨w2.heap.size, 0, none⟩) w2.heap.size 0 (q + 1) (q + 1) (ins S j x) wr (by omega) (by omega) HLr.out HR.out).mono ?_
              rintro e w' ⟨⟨g1, ok1, rfl, hP1⟩, rfl⟩
              have HP1 : Hid (Pred X n (ins S j x) (q + 1) g1 ok1) := hP1
              clear hP1 HR
              go_wp2_with fail
              refine (first_any (some ⟨w.heap.size, 0, none⟩) w.heap.size 0 n n X x wr (by omega) HLr.out).mono ?_
              rintro e w' ⟨⟨ix, rfl, hF⟩, rfl⟩
              have HF : Hid (First X n x ix) := hF
              clear hF
              by_cases hix : ix < 0
              · obtain ⟨rfl, rfl⟩ := add_out (by omega) HP0.out HP1.out HF.out (by omega)
                clear HP0 HP1 HF
                go_wp2_with fail
                refine (predict_any (some ⟨w.heap.size, 0, none⟩) w.heap.size 0 n n X none 0 0 0 0 (fun _ => 0) wr (by omega) (by omega) HLr.out ⟨fun h => by omega, fun i h => by omega⟩).mono ?_
                rintro e w' ⟨⟨gn, okn, rfl, hPn⟩, rfl⟩
                obtain ⟨rfl, rfl⟩ := pred_none hPn
                clear hPn
                go_wp2
                go_ret
                exact ⟨rfl, HBr.out⟩
              · cases ok0 with
                | false =>
                  obtain ⟨rfl, rfl⟩ := add_new (by omega) HP0.out HP1.out HF.out (by omega)
                  clear HP0 HP1 HF
                  go_wp2_with fail
                  refine (predict_any (some ⟨w.heap.size, 0, none⟩) w.heap.size 0 n n X none 0 0 0 0 (fun _ => 0) wr (by omega) (by omega) HLr.out ⟨fun h => by omega, fun i h => by omega⟩).mono ?_
                  rintro e w' ⟨⟨gn, okn, rfl, hPn⟩, rfl⟩
                  obtain ⟨rfl, rfl⟩ := pred_none hPn
                  clear hPn
                  go_wp2
                  go_ret
                  exact ⟨rfl, HBr.out⟩
                | true =>
                  go_wp2_with fail
                  refine (first_any (some ⟨w.heap.size, 0, none⟩) w.heap.size 0 n n X g0 wr (by omega) HLr.out).mono ?_
                  rintro e w' ⟨⟨iy, rfl, hG⟩, rfl⟩
                  by_cases hlt : ix < iy
                  · obtain ⟨rfl, rfl⟩ := add_before (by omega) HP0.out HP1.out HF.out hG (by omega) (by omega)
                    clear HP0 HP1 HF hG
                    go_wp2_with fail
                    refine (predict_any (some ⟨w.heap.size, 0, none⟩) w.heap.size 0 n n X none 0 0 0 0 (fun _ => 0) wr (by omega) (by omega) HLr.out ⟨fun h => by omega, fun i h => by omega⟩).mono ?_
                    rintro e w' ⟨⟨gn, okn, rfl, hPn⟩, rfl⟩
                    obtain ⟨rfl, rfl⟩ := pred_none hPn
                    clear hPn
                    go_wp2
                    go_ret
                    exact ⟨rfl, HBr.out⟩
                  · obtain ⟨rfl, rfl⟩ := add_behind (by omega) HP0.out HP1.out HF.out hG (by omega) (by omega)
                    clear HP0 HP1 HF hG
                    go_wp2_with fail
                    refine (predict_any (some ⟨w.heap.size, 0, none⟩) w.heap.size 0 n n X none 0 0 0 0 (fun _ => 0) wr (by omega) (by omega) HLr.out ⟨fun h => by omega, fun i h => by omega⟩).mono ?_
                    rintro e w' ⟨⟨gn, okn, rfl, hPn⟩, rfl⟩
                    obtain ⟨rfl, rfl⟩ := pred_none hPn
                    clear hPn
                    go_wp2
                    go_ret
                    exact ⟨rfl, HBr.out⟩
end Go.Proofs.Qxb6628391a
