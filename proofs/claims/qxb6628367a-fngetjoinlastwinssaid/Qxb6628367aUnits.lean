import Derived.Test.Qxb6628367aBytes
import Derived.Test.Qxb6628367aGet
import Derived.Test.Qxb6628367aPut
namespace Go.Proofs.Qxb6628367a
open Go.RowKit Go.Deep Go.WideShapes

theorem find_congr {K K' : Nat → ByteArray} (key : ByteArray) : ∀ m, (∀ i, i < m → K i = K' i) → find K key m = find K' key m := by
  intro m
  induction m with
  | zero => intro _; rfl
  | succ m ih =>
    intro h
    simp only [find]
    rw [h m (by omega), ih (fun i hi => h i (by omega))]

/-- Looking a name up in two lists, one behind the other: the second first. -/
theorem find_cat (K K' : Nat → ByteArray) (key : ByteArray) (n : Nat) : ∀ m, find (cat n K K') key (n + m) = match find K' key m with | some j => some (n + j) | none => find K key n := by
  intro m
  induction m with
  | zero =>
    show find (cat n K K') key n = find K key n
    exact find_congr key n (fun i hi => cat_left n K K' hi)
  | succ m ih =>
    rw [← Nat.add_assoc]
    simp only [find]
    rw [cat_right, ih]
    split <;> rfl

theorem find_lt (K : Nat → ByteArray) (key : ByteArray) : ∀ m j, find K key m = some j → j < m := by
  intro m
  induction m with
  | zero => intro j h; cases h
  | succ m ih =>
    intro j h
    simp only [find] at h
    split at h
    · injection h with h; omega
    · have := ih j h; omega

theorem cat_zero {α : Type} (f g : Nat → α) : cat 0 f g = g := by
  funext i
  simp [cat]

/-- Get where the answer is known. -/
theorem get_v (A0 : Option Addr) (b off n c : Nat) (K : Nat → ByteArray) (A : Nat → Option Addr) (L C : Nat → Nat) (key : ByteArray) (w : World) (hn : n ≤ 9223372036854775807) (h : Fs w A0 b off n K A L C) (x : Value) (y : Bool) (hx : got A L C (find K key n) = x) (hy : (find K key n).isSome = y) :
    Calls Try.prog 7 #[.slice A0 n c, .string key] w fun e w' => e = .returned (.tuple #[x, .bool y]) ∧ w = w' := by
  refine (get_any A0 b off n c K A L C key w hn h).mono ?_
  rintro e w' ⟨rfl, rfl⟩
  rw [hx, hy]
  exact ⟨rfl, rfl⟩

/-- make(qlog.Object, 0, n). -/
theorem mk_any (n : Nat) (hn : n ≤ 1048576) (w : World) : (Instr.makeSlice 27 (.int .i64 0) (.int .i64 (n : Int))).run Try.prog w = .ok (.slice (some ⟨w.heap.size, 0, none⟩) 0 n) (w.alloc (.cells (madeCells #[.string ⟨#[]⟩, .slice none 0 0] (n * 2)) 31)) := by
  obtain ⟨i0, hi, hz0, hz1, hz2⟩ := info_parts info31
  have := run_make (P := Try.prog) w 27 31 i0 _ Try.underlying27 hi hz0 .i64 .i64 0 (n : Int) (by omega) (by omega) (by rw [hz2]; omega) (by omega)
  have ez : (Value.agg #[.string ⟨#[]⟩, .slice none 0 0]).cells = #[.string ⟨#[]⟩, .slice none 0 0] := rfl
  rw [hz1, ez] at this
  simpa using this

theorem mk_filled (w : World) (n : Nat) (K : Nat → ByteArray) (A : Nat → Option Addr) (L C : Nat → Nat) : Filled (w.alloc (.cells (madeCells #[.string ⟨#[]⟩, .slice none 0 0] (n * 2)) 31)) w.heap.size n 0 K A L C := by
  have hs := size_madeCells #[.string ⟨#[]⟩, .slice none 0 0] (n * 2)
  refine ⟨fun i => (madeCells #[.string ⟨#[]⟩, .slice none 0 0] (n * 2)).getD i undef, ?_, fun i hi => by omega⟩
  have hr := World.rowIs_alloc w (madeCells #[.string ⟨#[]⟩, .slice none 0 0] (n * 2)) 31 (fun i => (madeCells #[.string ⟨#[]⟩, .slice none 0 0] (n * 2)).getD i undef) (fun i hi => by simp [hi])
  rw [hs] at hr
  exact hr

theorem Turned.below {w w' : World} {o : Obj} (t : Turned w.heap.size (w.alloc o) w') : Below w.heap.size w w' :=
  ⟨t.os, t.tape, t.output, by have := t.size; rw [World.size_alloc] at this; omega, fun k hk => (t.block k (by rw [World.size_alloc]; omega) (by omega)).trans (Below.heap_alloc _ _ _ hk)⟩
theorem Turned.above {G : Nat} {w w' : World} (t : Turned G w w') {B : Nat} (hB : B ≤ G) (hs : B ≤ w.heap.size) : Below B w w' :=
  ⟨t.os, t.tape, t.output, t.size, fun k hk => t.block k (by omega) (by omega)⟩
theorem Filled.below {w w' : World} {G c m : Nat} {K : Nat → ByteArray} {A : Nat → Option Addr} {L C : Nat → Nat} (h : Filled w G c m K A L C) (hb : Below w.heap.size w w') : Filled w' G c m K A L C := by
  obtain ⟨f, hr, hf⟩ := h
  exact ⟨f, hr.of_block (hb.block G hr.lt), hf⟩
theorem Bytes.below {w w' : World} {A : Option Addr} {L C b off : Nat} {Z : Nat → Int} (h : Bytes w A L C b off Z) (hb : Below w.heap.size w w') : Bytes w' A L C b off Z :=
  ⟨h.adr, fun i hi => (hb.cell (p := ⟨b, off + i, none⟩) (World.block_lt_of_cell? _ _ (h.cell i hi))).trans (h.cell i hi)⟩
theorem belowDrawn {B : Nat} {a b : World} (h : Below B a b) (q : Nat) : Below B a (b.drewN q) := ⟨h.os, h.tape, h.output, h.size, h.block⟩

/-- append where there is room, in a plain list of operations. -/
theorem wpList_append_space {P : Program} (w : World) {ops : Array Oper} {rest : List Oper} {o : Oper} {a : Act} {Q : Exit → Act → World → Prop}
    (hg : o.guard = none) (s x : Operand) (t : TypeId) (hop : o.op = Op.call { callee := Callee.builtin Builtin.append, args := #[s, x], argTypes := #[t, t] })
    (e : TypeId) (i : TypeInfo) (size : Nat) (h1 : P.underlying t = some (.slice e)) (h2 : P.info? e = some i) (h4 : i.size = size)
    (b off n cap : Nat) (hs : a.eval s = .slice (some ⟨b, off, none⟩) n cap) (ad : Addr) (m c : Nat) (news : List Value) (hx : a.eval x = .slice (some ad) m c) (hn : news.length = m * size)
    (hc : ∀ j u, news[j]? = some u → w.cell? (ad.add j) = some u) (h1c : ∀ u ∈ news, u.oneCell' = true) (hroom : n + m ≤ cap)
    (hspare : ∀ j, j < news.length → (w.cell? ⟨b, off + n * size + j, none⟩).isSome = true ∧ w.frozen? ⟨b, off + n * size + j, none⟩ = false)
    (hK : wpList P ops Q rest (a.put o.dst (.slice (some ⟨b, off, none⟩) (n + m) cap)) (w.setCells b (off + n * size) news)) :
    wpList P ops Q (o :: rest) a w := by
  refine wpList_plain hg fun K hK' => ?_
  subst h4
  have hrun := run_append_room_cells (P := P) w t o.type e i h1 h2 b off n cap ad m c news hn hc h1c hroom (fun j hj => (hspare j hj).1) (fun j hj => (hspare j hj).2)
  unfold Oper.wp
  simp [execOp, hop, resolve, invoke, builtin, hs, hx, hrun, Result.andThen]
  exact hK' _ _ hK

theorem Fs.blt {w : World} {A0 : Option Addr} {b off n : Nat} {K : Nat → ByteArray} {A : Nat → Option Addr} {L C : Nat → Nat} (h : Fs w A0 b off n K A L C) (h0 : 0 < n) : b < w.heap.size := World.block_lt_of_cell? _ _ (h.key 0 h0)

/-- zzPut into a new object. -/
theorem put_new (A0 : Option Addr) (b off n c0 : Nat) (K : Nat → ByteArray) (A : Nat → Option Addr) (L C : Nat → Nat) (c : Nat) (W : World) (hc : n ≤ c) (hc' : c ≤ 1048576) (h : Fs W A0 b off n K A L C) :
    Calls Try.prog 6 #[.slice (some ⟨W.heap.size, 0, none⟩) 0 c, .slice A0 n c0] (W.alloc (.cells (madeCells #[.string ⟨#[]⟩, .slice none 0 0] (c * 2)) 31)) fun e w' =>
      e = .returned (.slice (some ⟨W.heap.size, 0, none⟩) n c) ∧ Below W.heap.size W w' ∧ Filled w' W.heap.size c n K A L C := by
  have hb : Below W.heap.size W (W.alloc (.cells (madeCells #[.string ⟨#[]⟩, .slice none 0 0] (c * 2)) 31)) := (Below.refl _ _).alloc (Nat.le_refl _) _
  refine (put_any A0 b off n c0 K A L C W.heap.size c 0 K A L C _ (by omega) hc' (h.below hb) (fun q => by have := h.blt q; omega) (mk_filled W c K A L C)).mono ?_
  rintro e w' ⟨rfl, ht, hf⟩
  rw [Nat.zero_add, cat_zero, cat_zero, cat_zero, cat_zero] at hf
  exact ⟨by rw [Nat.zero_add], ht.below, hf⟩

theorem two_one (key : ByteArray) (V : Option Addr) (vl vc : Nat) : ∀ u ∈ ([.string key, .slice V vl vc] : List Value), u.oneCell' = true := by
  intro u hu
  simp at hu
  rcases hu with rfl | rfl <;> rfl

/-- One field more, behind m that are there: in the world behind the new one-field slice. -/
theorem Filled.one {wr : World} {G c m : Nat} {K : Nat → ByteArray} {A : Nat → Option Addr} {L C : Nat → Nat} (h : Filled wr G c m K A L C) (key : ByteArray) (V : Option Addr) (vl vc : Nat) (o : Obj) :
    Filled ((wr.alloc o).setCells G (m * 2) [.string key, .slice V vl vc]) G c (m + 1) (cat m K (fun _ => key)) (cat m A (fun _ => V)) (cat m L (fun _ => vl)) (cat m C (fun _ => vc)) := by
  have h0 : Filled wr G c (m + 0) (cat m K (fun _ => key)) (cat m A (fun _ => V)) (cat m L (fun _ => vl)) (cat m C (fun _ => vc)) := h.start
  have h1 := h0.step o
  obtain ⟨f, hr, hf⟩ := h1
  exact ⟨f, hr, hf⟩

theorem Filled.space {wr : World} {G c m : Nat} {K : Nat → ByteArray} {A : Nat → Option Addr} {L C : Nat → Nat} (h : Filled wr G c m K A L C) (hm : m < c) (o : Obj) : ∀ j, j < 2 → (((wr.alloc o)).cell? ⟨G, 0 + m * 2 + j, none⟩).isSome = true ∧ ((wr.alloc o)).frozen? ⟨G, 0 + m * 2 + j, none⟩ = false := h.room hm o
theorem new_two' {wr : World} (x y : Value) : ∀ j u, ([x, y] : List Value)[j]? = some u → (wr.alloc (.cells #[x, y] 31)).cell? ((⟨wr.heap.size, 0, none⟩ : Addr).add j) = some u := new_two x y
theorem one_below {wr : World} {B G : Nat} (hB : B ≤ G) (hs : B ≤ wr.heap.size) (o : Obj) (i : Nat) (x y : Value) : Below B wr ((wr.alloc o).setCells G i [x, y]) := by
  rw [setCells_two]
  exact (((Below.refl _ _).alloc hs _).setCell hB _).setCell hB _

theorem got_left (n : Nat) (A B : Nat → Option Addr) (L M C D : Nat → Nat) {i : Nat} (h : i < n) : got (cat n A B) (cat n L M) (cat n C D) (some i) = .slice (A i) (L i) (C i) := by
  show Value.slice (cat n A B i) (cat n L M i) (cat n C D i) = _
  rw [cat_left n A B h, cat_left n L M h, cat_left n C D h]
theorem got_right (n : Nat) (A B : Nat → Option Addr) (L M C D : Nat → Nat) (i : Nat) : got (cat n A B) (cat n L M) (cat n C D) (some (n + i)) = .slice (B i) (M i) (D i) := by
  show Value.slice (cat n A B (n + i)) (cat n L M (n + i)) (cat n C D (n + i)) = _
  rw [cat_right, cat_right, cat_right]
/-- The field in the middle is the one that is looked up. -/
theorem find_mid (K : Nat → ByteArray) (key : ByteArray) (n : Nat) : find (cat n K (fun _ => key)) key (n + 1) = some n := by
  apply find_hit
  have e : cat n K (fun _ => key) n = key := cat_right n K (fun _ => key) 0
  rw [e]
  exact beq_self_eq_true _
end Go.Proofs.Qxb6628367a
