import Derived.Test.Qxb6628367aRows
import Derived.Test.Qxb6628367aMem
import Derived.WalkSpells
import Derived.Deep.LoopGhost
import Derived.Deep.RegionLaw
import Derived.Lib.LazyBuf
namespace Go.Proofs.Qxb6628367a
open Go.RowKit Go.Deep Go.WideShapes

theorem info31 : (Try.prog.info? 31).map (fun i => (i.zero, i.size, i.bytes)) = some (some (.agg #[.string ⟨#[]⟩, .slice none 0 0]), 2, 40) := by kernel_rfl

/-- Two families one behind the other. -/
def cat {α : Type} (n : Nat) (f g : Nat → α) (i : Nat) : α := if i < n then f i else g (i - n)

/-- Block G holds m fields, and has room for c. -/
def Filled (w : World) (G c m : Nat) (K : Nat → ByteArray) (A : Nat → Option Addr) (L C : Nat → Nat) : Prop :=
  ∃ f, w.rowIs G 31 (c * 2) f ∧ ∀ i, i < m → f (i * 2) = .string (K i) ∧ f (i * 2 + 1) = .slice (A i) (L i) (C i)

/-- Nothing that was there has turned but block G. -/
structure Turned (G : Nat) (w w' : World) : Prop where
  os : w'.os = w.os
  tape : w'.tape = w.tape
  output : w'.output = w.output
  size : w.heap.size ≤ w'.heap.size
  block : ∀ k, k < w.heap.size → k ≠ G → w'.heap[k]? = w.heap[k]?

theorem Turned.refl (G : Nat) (w : World) : Turned G w w := ⟨rfl, rfl, rfl, Nat.le_refl _, fun _ _ _ => rfl⟩
theorem Turned.trans {G : Nat} {a b c : World} (h : Turned G a b) (k : Turned G b c) : Turned G a c :=
  ⟨k.os.trans h.os, k.tape.trans h.tape, k.output.trans h.output, Nat.le_trans h.size k.size, fun i hi h1 => (k.block i (Nat.lt_of_lt_of_le hi h.size) h1).trans (h.block i hi h1)⟩

theorem setCells_two (w : World) (g o : Nat) (x y : Value) : w.setCells g o [x, y] = (w.setCell ⟨g, o, none⟩ x).setCell ⟨g, o + 1, none⟩ y := rfl

theorem Turned.step {G : Nat} {w wr : World} (h : Turned G w wr) (o : Obj) (i : Nat) (x y : Value) : Turned G w (((wr.alloc o).drew).setCells G i [x, y]) := by
  rw [setCells_two]
  refine h.trans ⟨rfl, rfl, rfl, ?_, fun k hk h1 => ?_⟩
  · rw [World.size_setCell, World.size_setCell]
    show wr.heap.size ≤ (wr.heap.push o).size
    simp
  · rw [Below.heap_setCell _ _ _ _ h1, Below.heap_setCell _ _ _ _ h1]
    exact Below.heap_alloc _ _ _ hk

section
variable {wr : World} {G c m k : Nat} {K0 K : Nat → ByteArray} {B0 A : Nat → Option Addr} {L0 L C0 C : Nat → Nat}

theorem cat_left {α : Type} (n : Nat) (f g : Nat → α) {i : Nat} (h : i < n) : cat n f g i = f i := by unfold cat; rw [if_pos h]
theorem cat_right {α : Type} (n : Nat) (f g : Nat → α) (i : Nat) : cat n f g (n + i) = g i := by
  unfold cat
  rw [if_neg (by omega), show n + i - n = i by omega]

theorem Filled.start (h : Filled wr G c m K0 B0 L0 C0) : Filled wr G c (m + 0) (cat m K0 K) (cat m B0 A) (cat m L0 L) (cat m C0 C) := by
  obtain ⟨f, hr, hf⟩ := h
  refine ⟨f, hr, fun i hi => ?_⟩
  rw [cat_left m K0 K hi, cat_left m B0 A hi, cat_left m L0 L hi, cat_left m C0 C hi]
  exact hf i hi

theorem Filled.step (h : Filled wr G c (m + k) (cat m K0 K) (cat m B0 A) (cat m L0 L) (cat m C0 C)) (o : Obj) :
    Filled (((wr.alloc o).drew).setCells G ((m + k) * 2) [.string (K k), .slice (A k) (L k) (C k)]) G c (m + (k + 1)) (cat m K0 K) (cat m B0 A) (cat m L0 L) (cat m C0 C) := by
  obtain ⟨f, hr, hf⟩ := h
  rw [setCells_two]
  refine ⟨_, (((hr.alloc o).drew).set ((m + k) * 2) _).set ((m + k) * 2 + 1) _, fun i hi => ?_⟩
  by_cases e : i = m + k
  · subst e
    rw [cat_right, cat_right, cat_right, cat_right]
    refine ⟨?_, ?_⟩
    · rw [if_neg (by omega), if_pos rfl]
    · rw [if_pos rfl]
  · rw [if_neg (by omega), if_neg (by omega), if_neg (by omega), if_neg (by omega)]
    exact hf i (by omega)

theorem Filled.lt (h : Filled wr G c m K0 B0 L0 C0) : G < wr.heap.size := by
  obtain ⟨f, hr, _⟩ := h
  exact hr.lt

theorem Filled.room (h : Filled wr G c m K0 B0 L0 C0) (hm : m < c) (o : Obj) : ∀ j, j < 2 → (((wr.alloc o).drew).cell? ⟨G, 0 + m * 2 + j, none⟩).isSome = true ∧ ((wr.alloc o).drew).frozen? ⟨G, 0 + m * 2 + j, none⟩ = false := by
  intro j hj
  obtain ⟨f, hr, _⟩ := h
  have hr' := (hr.alloc o).drew
  rw [Nat.zero_add]
  refine ⟨?_, hr'.frozen _⟩
  rw [hr'.cell (i := m * 2 + j) (by omega)]
  rfl

theorem new_two (x y : Value) : ∀ j u, ([x, y] : List Value)[j]? = some u → ((wr.alloc (.cells #[x, y] 31)).drew).cell? ((⟨wr.heap.size, 0, none⟩ : Addr).add j) = some u := by
  intro j u hu
  have hr := World.rowIs_alloc wr #[x, y] 31 (fun i => #[x, y].getD i undef) (fun i hi => by simp at hi; simp [hi])
  rw [add_plain, Nat.zero_add]
  match j, hu with
  | 0, hu => exact (hr.cell (i := 0) (by simp)).trans (by simpa using hu)
  | 1, hu => exact (hr.cell (i := 1) (by simp)).trans (by simpa using hu)

/-- As a list of fields. -/
theorem Filled.fs (h : Filled wr G c m K0 B0 L0 C0) (hm : m ≤ c) : Fs wr (some ⟨G, 0, none⟩) G 0 m K0 B0 L0 C0 := by
  obtain ⟨f, hr, hf⟩ := h
  refine ⟨fun _ => rfl, fun r hrm => ?_, fun r hrm => ?_⟩
  · rw [Nat.zero_add, hr.cell (i := r * 2) (by omega), (hf r hrm).1]
  · rw [Nat.zero_add, hr.cell (i := r * 2 + 1) (by omega), (hf r hrm).2]

theorem Filled.turned {w' : World} {G' : Nat} (h : Filled wr G c m K0 B0 L0 C0) (t : Turned G' wr w') (hne : G ≠ G') : Filled w' G c m K0 B0 L0 C0 := by
  obtain ⟨f, hr, hf⟩ := h
  exact ⟨f, hr.of_block (t.block G hr.lt hne), hf⟩
theorem Filled.alloc (h : Filled wr G c m K0 B0 L0 C0) (o : Obj) : Filled (wr.alloc o) G c m K0 B0 L0 C0 := by
  obtain ⟨f, hr, hf⟩ := h
  exact ⟨f, hr.alloc o, hf⟩
end

theorem Fs.turned {w w' : World} {G : Nat} {A0 : Option Addr} {b off n : Nat} {K : Nat → ByteArray} {A : Nat → Option Addr} {L C : Nat → Nat} (h : Fs w A0 b off n K A L C) (t : Turned G w w') (hne : 0 < n → b ≠ G) : Fs w' A0 b off n K A L C :=
  ⟨h.nil, fun r hr => (World.cell?_of_block (w := w) (t.block b (World.block_lt_of_cell? _ _ (h.key r hr)) (hne (by omega)))).trans (h.key r hr),
   fun r hr => (World.cell?_of_block (w := w) (t.block b (World.block_lt_of_cell? _ _ (h.val r hr)) (hne (by omega)))).trans (h.val r hr)⟩

set_option maxHeartbeats 1600000 in
theorem put_any (A0 : Option Addr) (b off n c0 : Nat) (K : Nat → ByteArray) (A : Nat → Option Addr) (L C : Nat → Nat) (G c m : Nat) (K0 : Nat → ByteArray) (B0 : Nat → Option Addr) (L0 C0 : Nat → Nat) (w : World) (hc : m + n ≤ c) (hc' : c ≤ 1048576)
    (h : Fs w A0 b off n K A L C) (hb : 0 < n → b ≠ G) (h0 : Filled w G c m K0 B0 L0 C0) :
    Calls Try.prog 6 #[.slice (some ⟨G, 0, none⟩) m c, .slice A0 n c0] w fun e w' => e = .returned (.slice (some ⟨G, 0, none⟩) (m + n) c) ∧ Turned G w w' ∧ Filled w' G c (m + n) (cat m K0 K) (cat m B0 A) (cat m L0 L) (cat m C0 C) := by
  obtain ⟨i0, hi, hz0, hz1, hz2⟩ := info_parts info31
  have H : Hid (Fs w A0 b off n K A L C) := h
  have HB : Hid (0 < n → b ≠ G) := hb
  have H0 : Hid (Filled w G c m K0 B0 L0 C0) := h0
  clear h hb h0
  go_enter Try.func6, Try.ntmps6
  go_wp2
  go_loopg [0, 5] n (fun gk o i wr => ∃ k : Nat, k ≤ n ∧ gk = n - k ∧ i = .int .i64 k ∧ o = .slice (some ⟨G, 0, none⟩) (m + k) c ∧ Turned G w wr ∧ Filled wr G c (m + k) (cat m K0 K) (cat m B0 A) (cat m L0 L) (cat m C0 C))
  case atStart => exact ⟨0, Nat.zero_le _, rfl, rfl, rfl, Turned.refl _ _, H0.out.start⟩
  case round =>
    obtain ⟨k, hk, rfl, rfl, rfl, hT, hF⟩ := hrel
    by_cases hlt : k < n
    · have e := H.out.nil (by omega)
      subst e
      have hg := HB.out (by omega)
      have hfs := H.out.turned hT HB.out
      have kc := hfs.key k hlt
      have vc := hfs.val k hlt
      have i1 : (k : Int) < n := by omega
      have s1 : Hid (([.string (K k), .slice (A k) (L k) (C k)] : List Value).length = 1 * 2) := rfl
      have s2 : Hid (∀ u ∈ ([.string (K k), .slice (A k) (L k) (C k)] : List Value), u.oneCell' = true) := by
        intro u hu
        simp at hu
        rcases hu with rfl | rfl <;> rfl
      have s3 : Hid (∀ j, j < 2 → (((wr.alloc (.cells #[.string (K k), .slice (A k) (L k) (C k)] 31)).drew).cell? ⟨G, 0 + (m + k) * 2 + j, none⟩).isSome = true ∧ ((wr.alloc (.cells #[.string (K k), .slice (A k) (L k) (C k)] 31)).drew).frozen? ⟨G, 0 + (m + k) * 2 + j, none⟩ = false) := hF.room (by omega) _
      have s4 : Hid (∀ j u, ([.string (K k), .slice (A k) (L k) (C k)] : List Value)[j]? = some u → ((wr.alloc (.cells #[.string (K k), .slice (A k) (L k) (C k)] 31)).drew).cell? ((⟨wr.heap.size, 0, none⟩ : Addr).add j) = some u) := new_two _ _
      have hT' : Hid (Turned G w (((wr.alloc (.cells #[.string (K k), .slice (A k) (L k) (C k)] 31)).drew).setCells G ((m + k) * 2) [.string (K k), .slice (A k) (L k) (C k)])) := hT.step _ _ _ _
      have hF' : Hid (Filled (((wr.alloc (.cells #[.string (K k), .slice (A k) (L k) (C k)] 31)).drew).setCells G ((m + k) * 2) [.string (K k), .slice (A k) (L k) (C k)]) G c (m + (k + 1)) (cat m K0 K) (cat m B0 A) (cat m L0 L) (cat m C0 C)) := hF.step _
      clear hT hF hfs
      go_wp2
      go_region_law (refine step_append_room rfl (.tmp 12) (.tmp 24) 27 rfl 31 i0 2 Try.underlying27 hi hz1 G 0 (m + k) c (by simp [Act.eval]) ⟨wr.heap.size, 0, none⟩ 1 1 [.string (K k), .slice (A k) (L k) (C k)] (by simp [Act.eval]) s1.out s4.out s2.out (by omega) s3.out ?_)
      all_goals
        go_wp2
        go_roundg (n - (k + 1))
        case measure => omega
        case rel => exact ⟨k + 1, by omega, rfl, by go_num, rfl, hT'.out, hF'.out⟩
    · obtain rfl : k = n := by omega
      have hT' : Hid (Turned G w wr) := hT
      have hF' : Hid (Filled wr G c (m + k) (cat m K0 K) (cat m B0 A) (cat m L0 L) (cat m C0 C)) := hF
      clear hT hF
      go_wp2
      go_ret
      exact ⟨rfl, hT'.out, hF'.out⟩
end Go.Proofs.Qxb6628367a
