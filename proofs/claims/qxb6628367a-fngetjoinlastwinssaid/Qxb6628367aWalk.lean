import Derived.Test.Qxb6628367aUnits
namespace Go.Proofs.Qxb6628367a
open Go.RowKit Go.Deep Go.WideShapes

/-- Every value of the list can be read. -/
def Vals (w : World) (n : Nat) (A : Nat → Option Addr) (L C : Nat → Nat) : Prop := ∀ r, r < n → L r ≤ 9223372036854775807 ∧ ∃ b off Z, Bytes w (A r) (L r) (C r) b off Z

theorem Vals.below {w w' : World} {n : Nat} {A : Nat → Option Addr} {L C : Nat → Nat} (h : Vals w n A L C) (hb : Below w.heap.size w w') : Vals w' n A L C := fun r hr => by
  obtain ⟨h1, b, off, Z, h2⟩ := h r hr
  exact ⟨h1, b, off, Z, h2.below hb⟩

set_option maxHeartbeats 3200000 in
set_option maxRecDepth 100000 in
theorem walk (A0 : Option Addr) (b off n c : Nat) (K : Nat → ByteArray) (A : Nat → Option Addr) (L C : Nat → Nat) (A1 : Option Addr) (b1 off1 n1 c1 : Nat) (K1 : Nat → ByteArray) (B1 : Nat → Option Addr) (L1 C1 : Nat → Nat)
    (key : ByteArray) (V : Option Addr) (vl vc : Nat) (w : World) (hn : n ≤ 9223372036854775807) (hn1 : n1 ≤ 9223372036854775807) (hkey : key.size ≤ 9223372036854775807) (hvl : vl ≤ 9223372036854775807)
    (h : Fs w A0 b off n K A L C) (h1 : Fs w A1 b1 off1 n1 K1 B1 L1 C1) (hv : Vals w n A L C) (hv1 : Vals w n1 B1 L1 C1) (hV : ∃ b off Z, Bytes w V vl vc b off Z) :
    Calls Try.prog 3 #[.slice A0 n c, .slice A1 n1 c1, .string key, .slice V vl vc] w fun e w' => e = .returned (.bool true) ∧ Below w.heap.size w w' := by
  have H : Hid (Fs w A0 b off n K A L C ∧ Fs w A1 b1 off1 n1 K1 B1 L1 C1 ∧ Vals w n A L C ∧ Vals w n1 B1 L1 C1 ∧ ∃ b off Z, Bytes w V vl vc b off Z) := ⟨h, h1, hv, hv1, hV⟩
  clear h h1 hv hv1 hV
  go_enter Try.func3, Try.ntmps3
  go_wp2_with fail
  refine (bytes_any A0 b off n c K A L C A1 b1 off1 n1 c1 K1 B1 L1 C1 key V vl vc w hn hn1 H.out.1 H.out.2.1).mono ?_
  rintro e w ⟨⟨r, rfl⟩, rfl⟩
  cases r with
  | false =>
    go_wp2
    go_ret
    exact ⟨rfl, Below.refl _ _⟩
  | true =>
    by_cases g1 : (65536 : Int) < n
    · go_wp2
      go_ret
      exact ⟨rfl, Below.refl _ _⟩
    by_cases g2 : (65536 : Int) < n1
    · go_wp2
      go_ret
      exact ⟨rfl, Below.refl _ _⟩
    by_cases g3 : (1048576 : Int) < key.size
    · go_wp2
      go_ret
      exact ⟨rfl, Below.refl _ _⟩
    by_cases g4 : (1048576 : Int) < vl
    · go_wp2
      go_ret
      exact ⟨rfl, Below.refl _ _⟩
    by_cases g5 : (1048576 : Int) < (key.size : Int) + vl
    · go_wp2
      go_ret
      exact ⟨rfl, Below.refl _ _⟩
    go_wp2_with fail
    refine (size_any A0 b off n c K A L C _ _ hn H.out.1).mono ?_
    rintro e w1 ⟨⟨t1, rfl⟩, q1, rfl⟩
    by_cases g6 : (1048576 : Int) < t1
    · go_wp2
      go_ret
      exact ⟨rfl, belowDrawn (Below.refl _ _) q1⟩
    go_wp2_with fail
    refine (size_any A1 b1 off1 n1 c1 K1 B1 L1 C1 _ _ hn1 (H.out.2.1.below (belowDrawn (Below.refl _ _) q1))).mono ?_
    rintro e w2 ⟨⟨t2, rfl⟩, q2, rfl⟩
    by_cases g7 : (1048576 : Int) < t2
    · go_wp2
      go_ret
      exact ⟨rfl, belowDrawn (Below.refl _ _) _⟩
    have hB0 : Below w.heap.size w ((w.drewN q1).drewN q2) := belowDrawn (belowDrawn (Below.refl _ _) q1) q2
    generalize (w.drewN q1).drewN q2 = W0 at hB0 ⊢
    have HB : Hid (Below w.heap.size w W0) := hB0
    have H0 : Hid (Fs W0 A0 b off n K A L C ∧ Fs W0 A1 b1 off1 n1 K1 B1 L1 C1 ∧ Vals W0 n A L C ∧ Vals W0 n1 B1 L1 C1 ∧ ∃ b off Z, Bytes W0 V vl vc b off Z) := by
      obtain ⟨h1, h2, h3, h4, bb, oo, Z, h5⟩ := H.out
      exact ⟨h1.below hB0, h2.below hB0, h3.below hB0, h4.below hB0, bb, oo, Z, h5.below hB0⟩
    clear H hB0
    have m1 := mk_any n (by omega)
    go_wp2_with fail
    refine (put_new A0 b off n c K A L C n W0 (Nat.le_refl _) (by omega) H0.out.1).mono ?_
    rintro e w1 ⟨rfl, hb1, hf1⟩
    have HB1 : Hid (Below W0.heap.size W0 w1) := hb1
    have HF1 : Hid (Filled w1 W0.heap.size n n K A L C) := hf1
    clear hb1 hf1 m1
    have m2 := mk_any n1 (by omega)
    go_wp2_with fail
    refine (put_new A1 b1 off1 n1 c1 K1 B1 L1 C1 n1 w1 (Nat.le_refl _) (by omega) (H0.out.2.1.below HB1.out)).mono ?_
    rintro e w2 ⟨rfl, hb2, hf2⟩
    have HB2 : Hid (Below w1.heap.size w1 w2) := hb2
    have HF2 : Hid (Filled w2 w1.heap.size n1 n1 K1 B1 L1 C1) := hf2
    clear hb2 hf2 m2
    have ec : ((n + n1 : Nat) : Int) = (n : Int) + n1 := by omega
    have m3 : ∀ w, (Instr.makeSlice 27 (.int .i64 0) (.int .i64 ((n : Int) + n1))).run Try.prog w = .ok (.slice (some ⟨w.heap.size, 0, none⟩) 0 (n + n1)) (w.alloc (.cells (madeCells #[.string ⟨#[]⟩, .slice none 0 0] ((n + n1) * 2)) 31)) := fun w => by rw [← ec]; exact mk_any (n + n1) (by omega) w
    clear ec
    go_wp2_with fail
    refine (put_new A0 b off n c K A L C (n + n1) w2 (by omega) (by omega) ((H0.out.1.below HB1.out).below HB2.out)).mono ?_
    rintro e w3 ⟨rfl, hb3, hf3⟩
    have HB3 : Hid (Below w2.heap.size w2 w3) := hb3
    have HF3 : Hid (Filled w3 w2.heap.size (n + n1) n K A L C) := hf3
    clear hb3 hf3 m3
    go_wp2_with fail
    refine (put_any A1 b1 off1 n1 c1 K1 B1 L1 C1 w2.heap.size (n + n1) n K A L C w3 (Nat.le_refl _) (by omega) (((H0.out.2.1.below HB1.out).below HB2.out).below HB3.out) (fun q => by have := ((H0.out.2.1.below HB1.out).below HB2.out).blt q; omega) HF3.out).mono ?_
    rintro e w4 ⟨rfl, ht4, hf4⟩
    have hs3 := HB3.out.size
    have HB4 : Hid (Below w2.heap.size w2 w4) := HB3.out.trans (ht4.above (Nat.le_refl _) hs3)
    have HF4 : Hid (Filled w4 w2.heap.size (n + n1) (n + n1) (cat n K K1) (cat n A B1) (cat n L L1) (cat n C C1)) := hf4
    clear ht4 hf4 hs3 HB3 HF3
    have ec : ((n + n1 + 1 : Nat) : Int) = (n : Int) + n1 + 1 := by omega
    have m4 : ∀ w, (Instr.makeSlice 27 (.int .i64 0) (.int .i64 ((n : Int) + n1 + 1))).run Try.prog w = .ok (.slice (some ⟨w.heap.size, 0, none⟩) 0 (n + n1 + 1)) (w.alloc (.cells (madeCells #[.string ⟨#[]⟩, .slice none 0 0] ((n + n1 + 1) * 2)) 31)) := fun w => by rw [← ec]; exact mk_any (n + n1 + 1) (by omega) w
    clear ec
    go_wp2_with fail
    refine (put_new A0 b off n c K A L C (n + n1 + 1) w4 (by omega) (by omega) (((H0.out.1.below HB1.out).below HB2.out).below HB4.out)).mono ?_
    rintro e w5 ⟨rfl, hb5, hf5⟩
    have HB5 : Hid (Below w4.heap.size w4 w5) := hb5
    have HF5 : Hid (Filled w5 w4.heap.size (n + n1 + 1) n K A L C) := hf5
    clear hb5 hf5 m4
    obtain ⟨i0, hi, _, hz1, _⟩ := info_parts info31
    have s3 : Hid (∀ j, j < 2 → ((w5.alloc (.cells #[.string key, .slice V vl vc] 31)).cell? ⟨w4.heap.size, 0 + n * 2 + j, none⟩).isSome = true ∧ (w5.alloc (.cells #[.string key, .slice V vl vc] 31)).frozen? ⟨w4.heap.size, 0 + n * 2 + j, none⟩ = false) := HF5.out.space (by omega) _
    go_wp2_with (at_builtin; refine wpList_append_space _ rfl (.tmp 94) (.tmp 98) 27 rfl 31 i0 2 Try.underlying27 hi hz1 w4.heap.size 0 n (n + n1 + 1) rfl ⟨w5.heap.size, 0, none⟩ 1 1 [.string key, .slice V vl vc] rfl rfl (new_two' _ _) (two_one _ _ _ _) (by omega) s3.out ?_)
    have hs5 := HB5.out.size
    have hBs : Below w4.heap.size w4 ((w5.alloc (.cells #[.string key, .slice V vl vc] 31)).setCells w4.heap.size (n * 2) [.string key, .slice V vl vc]) := HB5.out.trans (one_below (Nat.le_refl _) hs5 _ _ _ _)
    have hFs : Filled ((w5.alloc (.cells #[.string key, .slice V vl vc] 31)).setCells w4.heap.size (n * 2) [.string key, .slice V vl vc]) w4.heap.size (n + n1 + 1) (n + 1) (cat n K (fun _ => key)) (cat n A (fun _ => V)) (cat n L (fun _ => vl)) (cat n C (fun _ => vc)) := HF5.out.one key V vl vc _
    clear s3 HF5 HB5 hi hz1 hs5
    generalize (w5.alloc (.cells #[.string key, .slice V vl vc] 31)).setCells w4.heap.size (n * 2) [.string key, .slice V vl vc] = W5 at hBs hFs ⊢
    have hsW := hBs.size
    refine (put_any A1 b1 off1 n1 c1 K1 B1 L1 C1 w4.heap.size (n + n1 + 1) (n + 1) (cat n K (fun _ => key)) (cat n A (fun _ => V)) (cat n L (fun _ => vl)) (cat n C (fun _ => vc)) W5 (by omega) (by omega) ((((H0.out.2.1.below HB1.out).below HB2.out).below HB4.out).below hBs) (fun q => by have := (((H0.out.2.1.below HB1.out).below HB2.out).below HB4.out).blt q; omega) hFs).mono ?_
    rintro e w6 ⟨rfl, ht6, hf6⟩
    have hb6 : Below w4.heap.size w4 w6 := hBs.trans (ht6.above (Nat.le_refl _) hsW)
    have F4 : Hid (Fs w6 (some ⟨w4.heap.size, 0, none⟩) w4.heap.size 0 (n + 1 + n1) (cat (n + 1) (cat n K (fun _ => key)) K1) (cat (n + 1) (cat n A (fun _ => V)) B1) (cat (n + 1) (cat n L (fun _ => vl)) L1) (cat (n + 1) (cat n C (fun _ => vc)) C1)) := hf6.fs (by omega)
    have F3 : Hid (Fs w6 (some ⟨w2.heap.size, 0, none⟩) w2.heap.size 0 (n + n1) (cat n K K1) (cat n A B1) (cat n L L1) (cat n C C1)) := (HF4.out.below hb6).fs (Nat.le_refl _)
    have F2 : Hid (Fs w6 (some ⟨w1.heap.size, 0, none⟩) w1.heap.size 0 n1 K1 B1 L1 C1) := ((HF2.out.below HB4.out).below hb6).fs (Nat.le_refl _)
    have F1 : Hid (Fs w6 (some ⟨W0.heap.size, 0, none⟩) W0.heap.size 0 n K A L C) := (((HF1.out.below HB2.out).below HB4.out).below hb6).fs (Nat.le_refl _)
    have hs0 := HB.out.size
    have hs1 := HB1.out.size
    have hs2 := HB2.out.size
    have hs4 := HB4.out.size
    have HB6 : Hid (Below w.heap.size w w6) := (((HB.out.trans (HB1.out.mono (by omega))).trans (HB2.out.mono (by omega))).trans (HB4.out.mono (by omega))).trans (hb6.mono (by omega))
    have HVA : Hid (Vals w6 n A L C) := (((H0.out.2.2.1.below HB1.out).below HB2.out).below HB4.out).below hb6
    have HVB : Hid (Vals w6 n1 B1 L1 C1) := (((H0.out.2.2.2.1.below HB1.out).below HB2.out).below HB4.out).below hb6
    obtain ⟨bv, ov, Zv, hvz⟩ := H0.out.2.2.2.2
    have HVZ : Hid (Bytes w6 V vl vc bv ov Zv) := (((hvz.below HB1.out).below HB2.out).below HB4.out).below hb6
    clear ht6 hf6 hBs hFs hsW hb6 hs0 hs1 hs2 hs4 HF4 HF2 HF1 HB4 HB2 HB1 H0 hvz HB
    cases hfb0 : find K1 key n1 with
    | some j =>
      have hfb : Hid (find K1 key n1 = some j) := hfb0
      obtain ⟨hl0, bb, oo, Z, hz0⟩ := HVB.out j (find_lt _ _ _ _ hfb0)
      have hLj : Hid (L1 j ≤ 9223372036854775807) := hl0
      have HZ : Hid (Bytes w6 (B1 j) (L1 j) (C1 j) bb oo Z) := hz0
      clear hfb0 hl0 hz0
      go_wp2_with fail
      refine (get_v (some ⟨W0.heap.size, 0, none⟩) W0.heap.size 0 n n K A L C key w6 (by omega) F1.out _ _ rfl rfl).mono ?_
      rintro e w6 ⟨rfl, rfl⟩
      go_wp2_with fail
      refine (get_v (some ⟨w1.heap.size, 0, none⟩) w1.heap.size 0 n1 n1 K1 B1 L1 C1 key w6 (by omega) F2.out (.slice (B1 j) (L1 j) (C1 j)) true (by rw [hfb.out]; rfl) (by rw [hfb.out]; rfl)).mono ?_
      rintro e w6 ⟨rfl, rfl⟩
      go_wp2_with fail
      refine (get_v (some ⟨w2.heap.size, 0, none⟩) w2.heap.size 0 (n + n1) (n + n1) (cat n K K1) (cat n A B1) (cat n L L1) (cat n C C1) key w6 (by omega) F3.out (.slice (B1 j) (L1 j) (C1 j)) true (by rw [find_cat, hfb.out]; exact got_right _ _ _ _ _ _ _ _) (by rw [find_cat, hfb.out]; rfl)).mono ?_
      rintro e w6 ⟨rfl, rfl⟩
      go_wp2_with fail
      refine (get_v (some ⟨w4.heap.size, 0, none⟩) w4.heap.size 0 (n + 1 + n1) (n + n1 + 1) (cat (n + 1) (cat n K (fun _ => key)) K1) (cat (n + 1) (cat n A (fun _ => V)) B1) (cat (n + 1) (cat n L (fun _ => vl)) L1) (cat (n + 1) (cat n C (fun _ => vc)) C1) key w6 (by omega) F4.out (.slice (B1 j) (L1 j) (C1 j)) true (by rw [find_cat, hfb.out]; exact got_right _ _ _ _ _ _ _ _) (by rw [find_cat, hfb.out]; rfl)).mono ?_
      rintro e w6 ⟨rfl, rfl⟩
      go_wp2_with fail
      refine (same_any (B1 j) (L1 j) (C1 j) bb oo Z true w6 hLj.out HZ.out).mono ?_
      rintro e w7 ⟨rfl, q3, rfl⟩
      go_wp2_with fail
      refine (same_any (B1 j) (L1 j) (C1 j) bb oo Z true _ hLj.out (HZ.out.below (belowDrawn (Below.refl _ _) q3))).mono ?_
      rintro e w8 ⟨rfl, q4, rfl⟩
      go_wp2
      go_ret
      exact ⟨rfl, belowDrawn HB6.out _⟩
    | none =>
      have hfb : Hid (find K1 key n1 = none) := hfb0
      clear hfb0
      cases hfa0 : find K key n with
      | some i =>
        have hfa : Hid (find K key n = some i) := hfa0
        have hin : Hid (i < n) := find_lt _ _ _ _ hfa0
        obtain ⟨hl0, bb, oo, Z, hz0⟩ := HVA.out i hin.out
        have hLj : Hid (L i ≤ 9223372036854775807) := hl0
        have HZ : Hid (Bytes w6 (A i) (L i) (C i) bb oo Z) := hz0
        clear hfa0 hl0 hz0
        go_wp2_with fail
        refine (get_v (some ⟨W0.heap.size, 0, none⟩) W0.heap.size 0 n n K A L C key w6 (by omega) F1.out (.slice (A i) (L i) (C i)) true (by rw [hfa.out]; rfl) (by rw [hfa.out]; rfl)).mono ?_
        rintro e w6 ⟨rfl, rfl⟩
        go_wp2_with fail
        refine (get_v (some ⟨w1.heap.size, 0, none⟩) w1.heap.size 0 n1 n1 K1 B1 L1 C1 key w6 (by omega) F2.out (.slice none 0 0) false (by rw [hfb.out]; rfl) (by rw [hfb.out]; rfl)).mono ?_
        rintro e w6 ⟨rfl, rfl⟩
        go_wp2_with fail
        refine (get_v (some ⟨w2.heap.size, 0, none⟩) w2.heap.size 0 (n + n1) (n + n1) (cat n K K1) (cat n A B1) (cat n L L1) (cat n C C1) key w6 (by omega) F3.out (.slice (A i) (L i) (C i)) true (by rw [find_cat, hfb.out]; show got _ _ _ (find K key n) = _; rw [hfa.out]; exact got_left _ _ _ _ _ _ _ hin.out) (by rw [find_cat, hfb.out]; show (find K key n).isSome = _; rw [hfa.out]; rfl)).mono ?_
        rintro e w6 ⟨rfl, rfl⟩
        go_wp2_with fail
        refine (get_v (some ⟨w4.heap.size, 0, none⟩) w4.heap.size 0 (n + 1 + n1) (n + n1 + 1) (cat (n + 1) (cat n K (fun _ => key)) K1) (cat (n + 1) (cat n A (fun _ => V)) B1) (cat (n + 1) (cat n L (fun _ => vl)) L1) (cat (n + 1) (cat n C (fun _ => vc)) C1) key w6 (by omega) F4.out (.slice V vl vc) true (by rw [find_cat, hfb.out]; show got _ _ _ (find _ key (n + 1)) = _; rw [find_mid, got_left _ _ _ _ _ _ _ (by omega)]; exact got_right n A (fun _ => V) L (fun _ => vl) C (fun _ => vc) 0) (by rw [find_cat, hfb.out]; show (find _ key (n + 1)).isSome = _; rw [find_mid]; rfl)).mono ?_
        rintro e w6 ⟨rfl, rfl⟩
        go_wp2_with fail
        refine (same_any (A i) (L i) (C i) bb oo Z true w6 hLj.out HZ.out).mono ?_
        rintro e w7 ⟨rfl, q3, rfl⟩
        go_wp2_with fail
        refine (same_any V vl vc bv ov Zv true _ hvl (HVZ.out.below (belowDrawn (Below.refl _ _) q3))).mono ?_
        rintro e w8 ⟨rfl, q4, rfl⟩
        go_wp2
        go_ret
        exact ⟨rfl, belowDrawn HB6.out _⟩
      | none =>
        have hfa : Hid (find K key n = none) := hfa0
        clear hfa0
        go_wp2_with fail
        refine (get_v (some ⟨W0.heap.size, 0, none⟩) W0.heap.size 0 n n K A L C key w6 (by omega) F1.out (.slice none 0 0) false (by rw [hfa.out]; rfl) (by rw [hfa.out]; rfl)).mono ?_
        rintro e w6 ⟨rfl, rfl⟩
        go_wp2_with fail
        refine (get_v (some ⟨w1.heap.size, 0, none⟩) w1.heap.size 0 n1 n1 K1 B1 L1 C1 key w6 (by omega) F2.out (.slice none 0 0) false (by rw [hfb.out]; rfl) (by rw [hfb.out]; rfl)).mono ?_
        rintro e w6 ⟨rfl, rfl⟩
        go_wp2_with fail
        refine (get_v (some ⟨w2.heap.size, 0, none⟩) w2.heap.size 0 (n + n1) (n + n1) (cat n K K1) (cat n A B1) (cat n L L1) (cat n C C1) key w6 (by omega) F3.out (.slice none 0 0) false (by rw [find_cat, hfb.out]; show got _ _ _ (find K key n) = _; rw [hfa.out]; rfl) (by rw [find_cat, hfb.out]; show (find K key n).isSome = _; rw [hfa.out]; rfl)).mono ?_
        rintro e w6 ⟨rfl, rfl⟩
        go_wp2_with fail
        refine (get_v (some ⟨w4.heap.size, 0, none⟩) w4.heap.size 0 (n + 1 + n1) (n + n1 + 1) (cat (n + 1) (cat n K (fun _ => key)) K1) (cat (n + 1) (cat n A (fun _ => V)) B1) (cat (n + 1) (cat n L (fun _ => vl)) L1) (cat (n + 1) (cat n C (fun _ => vc)) C1) key w6 (by omega) F4.out (.slice V vl vc) true (by rw [find_cat, hfb.out]; show got _ _ _ (find _ key (n + 1)) = _; rw [find_mid, got_left _ _ _ _ _ _ _ (by omega)]; exact got_right n A (fun _ => V) L (fun _ => vl) C (fun _ => vc) 0) (by rw [find_cat, hfb.out]; show (find _ key (n + 1)).isSome = _; rw [find_mid]; rfl)).mono ?_
        rintro e w6 ⟨rfl, rfl⟩
        go_wp2_with fail
        refine (same_any none 0 0 0 0 (fun _ => 0) false w6 (by omega) ⟨fun h => by omega, fun i h => by omega⟩).mono ?_
        rintro e w7 ⟨rfl, q3, rfl⟩
        go_wp2_with fail
        refine (same_any V vl vc bv ov Zv true _ hvl (HVZ.out.below (belowDrawn (Below.refl _ _) q3))).mono ?_
        rintro e w8 ⟨rfl, q4, rfl⟩
        go_wp2
        go_ret
        exact ⟨rfl, belowDrawn HB6.out _⟩
end Go.Proofs.Qxb6628367a
