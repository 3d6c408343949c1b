import Derived.Test.Qxb6628312aMem
import Derived.Deep.Draws
namespace Go.Proofs.Qxb6628312a
open Go.RowKit Go.Deep

theorem all14 {p : Nat → Prop} (h0 : p 0) (h1 : p 1) (h2 : p 2) (h3 : p 3) (h4 : p 4) (h5 : p 5) (h6 : p 6) (h7 : p 7) (h8 : p 8) (h9 : p 9) (h10 : p 10) (h11 : p 11) (h12 : p 12) (h13 : p 13) : ∀ i, i < 14 → p i := by
  intro i hi
  match i, hi with
  | 0, _ => exact h0
  | 1, _ => exact h1
  | 2, _ => exact h2
  | 3, _ => exact h3
  | 4, _ => exact h4
  | 5, _ => exact h5
  | 6, _ => exact h6
  | 7, _ => exact h7
  | 8, _ => exact h8
  | 9, _ => exact h9
  | 10, _ => exact h10
  | 11, _ => exact h11
  | 12, _ => exact h12
  | 13, _ => exact h13

/-- The fourteen cells of a Scanner. -/
def scf (pv : Value) (lg : Bool) (bv : Value) (pos mark base lines depth : Int) : Nat → Value
  | 0 => pv
  | 1 => .bool lg
  | 2 => bv
  | 3 => .int .i64 pos
  | 4 => .int .i64 mark
  | 5 => .int .i64 base
  | 6 => .int .i64 lines
  | 7 => .int .i64 depth
  | 8 => .int .u8 0
  | 9 => .slice none 0 0
  | 10 => .int .i64 0
  | 11 => .int .i64 0
  | 12 => .bool false
  | _ => .int .u8 0

/-- Nothing but blocks S and G has turned. -/
structure Keep (S G : Nat) (w w' : World) : Prop where
  os : w'.os = w.os
  tape : w'.tape = w.tape
  output : w'.output = w.output
  size : w.heap.size ≤ w'.heap.size
  block : ∀ k, k < w.heap.size → k ≠ S → k ≠ G → w'.heap[k]? = w.heap[k]?

theorem Keep.refl (S G : Nat) (w : World) : Keep S G w w := ⟨rfl, rfl, rfl, Nat.le_refl _, fun _ _ _ _ => rfl⟩
theorem Keep.trans {S G : Nat} {a b c : World} (h : Keep S G a b) (k : Keep S G b c) : Keep S G a c :=
  ⟨k.os.trans h.os, k.tape.trans h.tape, k.output.trans h.output, Nat.le_trans h.size k.size, fun i hi h1 h2 => (k.block i (Nat.lt_of_lt_of_le hi h.size) h1 h2).trans (h.block i hi h1 h2)⟩
theorem Keep.drew {S G : Nat} {a b : World} (h : Keep S G a b) : Keep S G a b.drew := ⟨h.os, h.tape, h.output, h.size, h.block⟩
theorem Keep.drewN {S G : Nat} {a b : World} (h : Keep S G a b) (q : Nat) : Keep S G a (b.drewN q) := ⟨h.os, h.tape, h.output, h.size, h.block⟩
theorem Keep.alloc {S G : Nat} {a b : World} (h : Keep S G a b) (o : Obj) : Keep S G a (b.alloc o) :=
  h.trans ⟨rfl, rfl, rfl, by simp, fun k hk _ _ => Below.heap_alloc _ _ _ hk⟩
theorem Keep.setS {S G : Nat} {a b : World} (h : Keep S G a b) (i : Nat) (u : Value) : Keep S G a (b.setCell ⟨S, i, none⟩ u) :=
  h.trans ⟨rfl, rfl, rfl, by simp [World.setCell], fun _ _ h1 _ => Below.heap_setCell _ _ _ _ h1⟩
theorem Keep.setG {S G : Nat} {a b : World} (h : Keep S G a b) (i : Nat) (u : Value) : Keep S G a (b.setCell ⟨G, i, none⟩ u) :=
  h.trans ⟨rfl, rfl, rfl, by simp [World.setCell], fun _ _ _ h2 => Below.heap_setCell _ _ _ _ h2⟩
theorem Keep.row {S G : Nat} {w w' : World} {b : Nat} {t : TypeId} {n : Nat} {f : Nat → Value} (h : Keep S G w w') (r : w.rowIs b t n f) (h1 : b ≠ S) (h2 : b ≠ G) : w'.rowIs b t n f :=
  r.of_block (h.block b r.lt h1 h2)

/-- The cloned parts from part j on, and the bytes of all of them. -/
structure Own (w : World) (S G n j : Nat) (A : Nat → Option Addr) (g L : Nat → Nat) (X : Nat → Int) : Prop where
  ne : 0 < n → G ≠ S
  top : ∀ r, j ≤ r → r < n → w.cell? ⟨G, r, none⟩ = some (.slice (A r) (L r) (L r)) ∧ w.frozen? ⟨G, r, none⟩ = false
  row : ∀ r, r < n → 0 < L r → A r = some ⟨g r, 0, none⟩ ∧ g r ≠ G ∧ g r ≠ S ∧ w.rowIs (g r) 5 (L r) (fun i => .int .u8 (X (psum L r + i)))

theorem Own.next {w : World} {S G n j : Nat} {A : Nat → Option Addr} {g L : Nat → Nat} {X : Nat → Int} (h : Own w S G n j A g L X) : Own w S G n (j + 1) A g L X :=
  ⟨h.ne, fun r hr => h.top r (by omega), h.row⟩
theorem Own.drew {w : World} {S G n j : Nat} {A : Nat → Option Addr} {g L : Nat → Nat} {X : Nat → Int} (h : Own w S G n j A g L X) : Own w.drew S G n j A g L X := ⟨h.ne, h.top, h.row⟩
theorem Own.alloc {w : World} {S G n j : Nat} {A : Nat → Option Addr} {g L : Nat → Nat} {X : Nat → Int} (h : Own w S G n j A g L X) (o : Obj) : Own (w.alloc o) S G n j A g L X :=
  ⟨h.ne, fun r h1 h2 => by
    obtain ⟨t1, t2⟩ := h.top r h1 h2
    have hlt : G < w.heap.size := World.block_lt_of_cell? _ _ t1
    exact ⟨(World.cell?_of_block (w := w) (Below.heap_alloc _ _ _ hlt)).trans t1, (World.frozen?_of_block (w := w) (Below.heap_alloc _ _ _ hlt)).trans t2⟩, fun r h1 h2 => by
    obtain ⟨t1, t2, t3, t4⟩ := h.row r h1 h2
    exact ⟨t1, t2, t3, t4.alloc _⟩⟩
theorem Own.setS {w : World} {S G n j : Nat} {A : Nat → Option Addr} {g L : Nat → Nat} {X : Nat → Int} (h : Own w S G n j A g L X) (i : Nat) (u : Value) : Own (w.setCell ⟨S, i, none⟩ u) S G n j A g L X :=
  ⟨h.ne, fun r h1 h2 => by
    obtain ⟨t1, t2⟩ := h.top r h1 h2
    exact ⟨(World.cell?_of_block (w := w) (Below.heap_setCell _ _ _ _ (h.ne (by omega)))).trans t1, (World.frozen?_of_block (w := w) (Below.heap_setCell _ _ _ _ (h.ne (by omega)))).trans t2⟩, fun r h1 h2 => by
    obtain ⟨t1, t2, t3, t4⟩ := h.row r h1 h2
    exact ⟨t1, t2, t3, t4.setOther t3 _⟩⟩
/-- Part j is let go. -/
theorem Own.setG {w : World} {S G n j : Nat} {A : Nat → Option Addr} {g L : Nat → Nat} {X : Nat → Int} (h : Own w S G n j A g L X) (u : Value) : Own (w.setCell ⟨G, j, none⟩ u) S G n (j + 1) A g L X :=
  ⟨h.ne, fun r h1 h2 => by
    obtain ⟨t1, t2⟩ := h.top r (by omega) h2
    refine ⟨?_, ?_⟩
    · rw [World.cell?_setCell_other]
      · exact t1
      · simp
    · simpa using t2, fun r h1 h2 => by
    obtain ⟨t1, t2, t3, t4⟩ := h.row r h1 h2
    exact ⟨t1, t2, t3, t4.setOther t2 _⟩⟩
theorem Own.keep {w w' : World} {S G S' G' n j : Nat} {A : Nat → Option Addr} {g L : Nat → Nat} {X : Nat → Int} (h : Own w S G n j A g L X) (k : Keep S' G' w w') (h1 : 0 < n → G ≠ S') (h2 : 0 < n → G ≠ G') (h3 : ∀ r, r < n → 0 < L r → g r ≠ S' ∧ g r ≠ G') : Own w' S G n j A g L X :=
  ⟨h.ne, fun r q1 q2 => by
    obtain ⟨t1, t2⟩ := h.top r q1 q2
    have hlt : G < w.heap.size := World.block_lt_of_cell? _ _ t1
    exact ⟨(World.cell?_of_block (w := w) (k.block _ hlt (h1 (by omega)) (h2 (by omega)))).trans t1, (World.frozen?_of_block (w := w) (k.block _ hlt (h1 (by omega)) (h2 (by omega)))).trans t2⟩, fun r q1 q2 => by
    obtain ⟨t1, t2, t3, t4⟩ := h.row r q1 q2
    exact ⟨t1, t2, t3, k.row t4 (h3 r q1 q2).1 (h3 r q1 q2).2⟩⟩

/-- What is being read: nothing yet, or a part, whose bytes stand at 'base' in the text. -/
def Buf (n : Nat) (A : Nat → Option Addr) (L : Nat → Nat) (BA : Option Addr) (BL base : Nat) : Prop :=
  (BA = none ∧ BL = 0) ∨ ∃ r, r < n ∧ 0 < L r ∧ BA = A r ∧ BL = L r ∧ base = psum L r

/-- The Scanner in block S: j parts reached. -/
structure St (w : World) (S G n : Nat) (A : Nat → Option Addr) (g L : Nat → Nat) (X : Nat → Int) (lg : Bool) (j : Nat) (PA BA : Option Addr) (BL base : Nat) (pos mark lines depth : Int) : Prop where
  jn : j ≤ n
  sc : w.rowIs S 39 14 (scf (.slice PA (n - j) (n - j)) lg (.slice BA BL BL) pos mark base lines depth)
  pa : j < n → PA = some ⟨G, j, none⟩
  own : Own w S G n j A g L X
  sum : base + BL = psum L j
  buf : Buf n A L BA BL base

theorem St.cells {w : World} {S G n : Nat} {A : Nat → Option Addr} {g L : Nat → Nat} {X : Nat → Int} {lg : Bool} {j : Nat} {PA BA : Option Addr} {BL base : Nat} {pos mark lines depth : Int} (h : St w S G n A g L X lg j PA BA BL base pos mark lines depth) :
    w.cell? ⟨S, 0, none⟩ = some (.slice PA (n - j) (n - j)) ∧ w.cell? ⟨S, 1, none⟩ = some (.bool lg) ∧ w.cell? ⟨S, 2, none⟩ = some (.slice BA BL BL) ∧ w.cell? ⟨S, 3, none⟩ = some (.int .i64 pos) ∧ w.cell? ⟨S, 4, none⟩ = some (.int .i64 mark) ∧
    w.cell? ⟨S, 5, none⟩ = some (.int .i64 base) ∧ w.cell? ⟨S, 6, none⟩ = some (.int .i64 lines) ∧ w.cell? ⟨S, 7, none⟩ = some (.int .i64 depth) ∧ (∀ i, w.frozen? ⟨S, i, none⟩ = false) :=
  ⟨h.sc.cell (i := 0) (by omega), h.sc.cell (i := 1) (by omega), h.sc.cell (i := 2) (by omega), h.sc.cell (i := 3) (by omega), h.sc.cell (i := 4) (by omega), h.sc.cell (i := 5) (by omega), h.sc.cell (i := 6) (by omega), h.sc.cell (i := 7) (by omega), fun i => h.sc.frozen i⟩

/-- Two worlds that part in draws alone. -/
structure Sim (w' W : World) : Prop where
  heap : w'.heap = W.heap
  os : w'.os = W.os
  tape : w'.tape = W.tape
  output : w'.output = W.output

theorem Sim.refl (w : World) : Sim w w := ⟨rfl, rfl, rfl, rfl⟩
theorem Sim.drew {a b : World} (h : Sim a b) : Sim a.drew b := ⟨h.heap, h.os, h.tape, h.output⟩
theorem Sim.drewN {a b : World} (h : Sim a b) (q : Nat) : Sim (a.drewN q) b := ⟨h.heap, h.os, h.tape, h.output⟩
theorem Sim.setCell {a b : World} (h : Sim a b) (p : Addr) (u : Value) : Sim (a.setCell p u) (b.setCell p u) := ⟨by simp only [World.setCell, h.heap], h.os, h.tape, h.output⟩

theorem Keep.sim {S G : Nat} {a b c : World} (h : Keep S G a b) (s : Sim c b) : Keep S G a c :=
  ⟨s.os.trans h.os, s.tape.trans h.tape, s.output.trans h.output, by rw [s.heap]; exact h.size, fun k h0 h1 h2 => by rw [s.heap]; exact h.block k h0 h1 h2⟩

theorem rowIs_sim {w' w : World} {b : Nat} {t : TypeId} {n : Nat} {f : Nat → Value} (h : w.rowIs b t n f) (s : Sim w' w) : w'.rowIs b t n f := h.of_block (by rw [s.heap])

theorem Own.sim {w w' : World} {S G n j : Nat} {A : Nat → Option Addr} {g L : Nat → Nat} {X : Nat → Int} (h : Own w S G n j A g L X) (s : Sim w' w) : Own w' S G n j A g L X :=
  ⟨h.ne, fun r h1 h2 => ⟨(World.cell?_of_block (w := w) (by rw [s.heap])).trans (h.top r h1 h2).1, (World.frozen?_of_block (w := w) (by rw [s.heap])).trans (h.top r h1 h2).2⟩,
    fun r h1 h2 => ⟨(h.row r h1 h2).1, (h.row r h1 h2).2.1, (h.row r h1 h2).2.2.1, rowIs_sim (h.row r h1 h2).2.2.2 s⟩⟩

section
variable {w w' : World} {S G n : Nat} {A : Nat → Option Addr} {g L : Nat → Nat} {X : Nat → Int} {lg : Bool} {j : Nat} {PA BA : Option Addr} {BL base : Nat} {pos mark lines depth : Int}

theorem St.sim (h : St w S G n A g L X lg j PA BA BL base pos mark lines depth) (s : Sim w' w) : St w' S G n A g L X lg j PA BA BL base pos mark lines depth :=
  ⟨h.jn, rowIs_sim h.sc s, h.pa, h.own.sim s, h.sum, h.buf⟩

/-- The next part is taken off the list, let go of or not: it holds nothing. -/
theorem st_skip (h : St w S G n A g L X lg j PA BA BL base pos mark lines depth) (hlt : j < n) (hL : L j = 0) (PA2 : Option Addr) (m : Nat) (hm : m = n - (j + 1)) (hPA : j + 1 < n → PA2 = some ⟨G, j + 1, none⟩) :
    St (w.setCell ⟨S, 0, none⟩ (.slice PA2 m m)) S G n A g L X lg (j + 1) PA2 BA BL base pos mark lines depth := by
  subst hm
  exact ⟨hlt, (h.sc.set 0 _).congr (by apply all14 <;> rfl), hPA, h.own.next.setS 0 _, by rw [psum_succ, hL]; exact h.sum, h.buf⟩

/-- The next part holds something: it is what is read now. -/
theorem st_take (h : St w S G n A g L X lg j PA BA BL base pos mark lines depth) (hlt : j < n) (hL : 0 < L j) (PA2 : Option Addr) (m : Nat) (hm : m = n - (j + 1)) (bi : Int) (hbi : bi = ((base + BL : Nat) : Int)) (hPA : j + 1 < n → PA2 = some ⟨G, j + 1, none⟩) :
    St (((((w.setCell ⟨S, 0, none⟩ (.slice PA2 m m)).setCell ⟨S, 5, none⟩ (.int .i64 bi)).setCell ⟨S, 3, none⟩ (.int .i64 0)).setCell ⟨S, 4, none⟩ (.int .i64 0)).setCell ⟨S, 2, none⟩ (.slice (A j) (L j) (L j)))
      S G n A g L X lg (j + 1) PA2 (A j) (L j) (base + BL) 0 0 lines depth := by
  subst hm hbi
  refine ⟨hlt, (((((h.sc.set 0 _).set 5 _).set 3 _).set 4 _).set 2 _).congr (by apply all14 <;> rfl), hPA, ((((h.own.next.setS 0 _).setS 5 _).setS 3 _).setS 4 _).setS 2 _, by rw [psum_succ, h.sum], Or.inr ⟨j, hlt, hL, rfl, rfl, h.sum⟩⟩

/-- Part j is let go of in the list: as a state from which it is still to be taken off. -/
theorem st_letgo (h : St w S G n A g L X lg j PA BA BL base pos mark lines depth) (hlt : j < n) (u : Value) (PA2 : Option Addr) (m : Nat) (hm : m = n - (j + 1)) (hPA : j + 1 < n → PA2 = some ⟨G, j + 1, none⟩) (hL : L j = 0) :
    St ((w.setCell ⟨G, j, none⟩ u).setCell ⟨S, 0, none⟩ (.slice PA2 m m)) S G n A g L X lg (j + 1) PA2 BA BL base pos mark lines depth := by
  subst hm
  exact ⟨hlt, ((h.sc.setOther (fun e => h.own.ne (by omega) e.symm) _).set 0 _).congr (by apply all14 <;> rfl), hPA, (h.own.setG u).setS 0 _, by rw [psum_succ, hL]; exact h.sum, h.buf⟩

theorem st_letgo_take (h : St w S G n A g L X lg j PA BA BL base pos mark lines depth) (hlt : j < n) (hL : 0 < L j) (u : Value) (PA2 : Option Addr) (m : Nat) (hm : m = n - (j + 1)) (bi : Int) (hbi : bi = ((base + BL : Nat) : Int)) (hPA : j + 1 < n → PA2 = some ⟨G, j + 1, none⟩) :
    St ((((((w.setCell ⟨G, j, none⟩ u).setCell ⟨S, 0, none⟩ (.slice PA2 m m)).setCell ⟨S, 5, none⟩ (.int .i64 bi)).setCell ⟨S, 3, none⟩ (.int .i64 0)).setCell ⟨S, 4, none⟩ (.int .i64 0)).setCell ⟨S, 2, none⟩ (.slice (A j) (L j) (L j)))
      S G n A g L X lg (j + 1) PA2 (A j) (L j) (base + BL) 0 0 lines depth := by
  subst hm hbi
  refine ⟨hlt, ((((((h.sc.setOther (fun e => h.own.ne (by omega) e.symm) _).set 0 _).set 5 _).set 3 _).set 4 _).set 2 _).congr (by apply all14 <;> rfl), hPA, (((((h.own.setG u).setS 0 _).setS 5 _).setS 3 _).setS 4 _).setS 2 _, by rw [psum_succ, h.sum], Or.inr ⟨j, hlt, hL, rfl, rfl, h.sum⟩⟩

theorem St.alloc (h : St w S G n A g L X lg j PA BA BL base pos mark lines depth) (o : Obj) : St (w.alloc o) S G n A g L X lg j PA BA BL base pos mark lines depth :=
  ⟨h.jn, h.sc.alloc o, h.pa, h.own.alloc o, h.sum, h.buf⟩

/-- Lines and depth are set. -/
theorem st_ld (h : St w S G n A g L X lg j PA BA BL base pos mark lines depth) (l' d' : Int) :
    St ((w.setCell ⟨S, 6, none⟩ (.int .i64 l')).setCell ⟨S, 7, none⟩ (.int .i64 d')) S G n A g L X lg j PA BA BL base pos mark l' d' :=
  ⟨h.jn, ((h.sc.set 6 _).set 7 _).congr (by apply all14 <;> rfl), h.pa, (h.own.setS 6 _).setS 7 _, h.sum, h.buf⟩

/-- pos and mark are set. -/
theorem st_pm (h : St w S G n A g L X lg j PA BA BL base pos mark lines depth) (p' m' : Int) :
    St ((w.setCell ⟨S, 3, none⟩ (.int .i64 p')).setCell ⟨S, 4, none⟩ (.int .i64 m')) S G n A g L X lg j PA BA BL base p' m' lines depth :=
  ⟨h.jn, ((h.sc.set 3 _).set 4 _).congr (by apply all14 <;> rfl), h.pa, (h.own.setS 3 _).setS 4 _, h.sum, h.buf⟩

/-- Where the bytes that are being read lie. -/
theorem St.bufAt (h : St w S G n A g L X lg j PA BA BL base pos mark lines depth) :
    (BA = none ∧ BL = 0) ∨ ∃ bb, BA = some ⟨bb, 0, none⟩ ∧ bb ≠ S ∧ bb ≠ G ∧ w.rowIs bb 5 BL (fun i => .int .u8 (X (base + i))) := by
  rcases h.buf with h0 | ⟨r, h1, h2, rfl, rfl, rfl⟩
  · exact Or.inl h0
  · obtain ⟨r1, r2, r3, r4⟩ := h.own.row r h1 h2
    exact Or.inr ⟨g r, r1, r3, r2, r4⟩

theorem St.keep {S' G' : Nat} (h : St w S G n A g L X lg j PA BA BL base pos mark lines depth) (k : Keep S' G' w w') (h1 : S ≠ S') (h2 : S ≠ G') (h3 : 0 < n → G ≠ S' ∧ G ≠ G') (h4 : ∀ r, r < n → 0 < L r → g r ≠ S' ∧ g r ≠ G') :
    St w' S G n A g L X lg j PA BA BL base pos mark lines depth :=
  ⟨h.jn, k.row h.sc h1 h2, h.pa, h.own.keep k (fun q => (h3 q).1) (fun q => (h3 q).2) h4, h.sum, h.buf⟩

theorem st_base_le (h : St w S G n A g L X lg j PA BA BL base pos mark lines depth) : base + BL ≤ psum L n := by
  rw [h.sum]; exact psum_mono L h.jn
end
end Go.Proofs.Qxb6628312a
