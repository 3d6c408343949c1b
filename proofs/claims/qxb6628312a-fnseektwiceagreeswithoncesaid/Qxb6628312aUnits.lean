import Derived.Test.Qxb6628312aBytes
import Derived.Test.Qxb6628312aJoin
import Derived.Test.Qxb6628312aSeek
import Derived.Test.Qxb6628312aCheck
import Derived.Deep.Slices
namespace Go.Proofs.Qxb6628312a
open Go.RowKit Go.Deep

/-- A list of parts as it came in: n parts of the lengths L, whose bytes are the text X in order. -/
structure Came (w : World) (A0 : Option Addr) (b off n : Nat) (A : Nat → Option Addr) (L C Ab Ao : Nat → Nat) (X : Nat → Int) : Prop where
  nil : 0 < n → A0 = some ⟨b, off, none⟩
  row : ∀ r, r < n → w.cell? ⟨b, off + r, none⟩ = some (.slice (A r) (L r) (C r))
  cell : ∀ r, r < n → ∀ i, i < L r → A r = some ⟨Ab r, Ao r, none⟩ ∧ w.cell? ⟨Ab r, Ao r + i, none⟩ = some (.int .u8 (X (psum L r + i)))

/-- What zzCloneParts leaves, nil or not. -/
structure ClU (w w1 : World) (n : Nat) (L : Nat → Nat) (X : Nat → Int) (A1 : Option Addr) (G : Nat) (A : Nat → Option Addr) (g : Nat → Nat) : Prop where
  below : Below w.heap.size w w1
  nil : 0 < n → A1 = some ⟨G, 0, none⟩ ∧ w.heap.size ≤ G ∧ G < w1.heap.size
  top : ∀ r, r < n → w1.cell? ⟨G, r, none⟩ = some (.slice (A r) (L r) (L r)) ∧ w1.frozen? ⟨G, r, none⟩ = false
  row : ∀ r, r < n → 0 < L r → A r = some ⟨g r, 0, none⟩ ∧ G < g r ∧ w1.rowIs (g r) 5 (L r) (fun i => .int .u8 (X (psum L r + i)))

def Copied (e : Ending) (w w1 : World) (n : Nat) (L : Nat → Nat) (X : Nat → Int) : Prop := ∃ A1 G A g, e = .returned (.slice A1 n n) ∧ ClU w w1 n L X A1 G A g

theorem clone_u (A0 : Option Addr) (b off n c : Nat) (A : Nat → Option Addr) (L C Ab Ao : Nat → Nat) (X : Nat → Int) (w : World) (hn : n + psum L n ≤ 1048576) (h : Came w A0 b off n A L C Ab Ao X) :
    Calls Try.prog 6 #[.slice A0 n c] w fun e w' => Copied e w w' n L X := by
  cases A0 with
  | none =>
    refine (clone_nil n c w).mono ?_
    rintro e w' ⟨rfl, rfl⟩
    have h0 : n = 0 := by
      by_cases h0 : n = 0
      · exact h0
      · have := h.nil (by omega)
        cases this
    subst h0
    exact ⟨none, 0, fun _ => none, fun _ => 0, rfl, Below.refl _ _, fun h => by omega, fun r hr => by omega, fun r hr => by omega⟩
  | some a0 =>
    refine (clone_any a0 b off n c A L C Ab Ao X w (by omega) (fun r hr => by have := psum_part L hr; omega) (fun q => by have := h.nil q; injection this) h.row h.cell).mono ?_
    rintro e w' ⟨rfl, V, hV⟩
    have each : ∀ r, r < n → ∃ y : Option Addr × Nat, V r = .slice y.1 (L r) (L r) ∧ (0 < L r → y.1 = some ⟨y.2, 0, none⟩ ∧ w.heap.size < y.2 ∧ w'.rowIs y.2 5 (L r) (fun i => .int .u8 (X (psum L r + i)))) := fun r hr => by
      obtain ⟨A', hv, hg⟩ := hV.done r hr
      by_cases h0 : 0 < L r
      · obtain ⟨g, h1, h2, h3⟩ := hg h0
        exact ⟨(A', g), hv, fun _ => ⟨h2, h1, h3⟩⟩
      · exact ⟨(A', 0), hv, fun q => absurd q h0⟩
    obtain ⟨y, hy⟩ := choose_lt each
    refine ⟨some ⟨w.heap.size, 0, none⟩, w.heap.size, fun r => (y r).1, fun r => (y r).2, rfl, hV.below, fun _ => ⟨rfl, Nat.le_refl _, hV.top.lt⟩, fun r hr => ⟨?_, hV.top.frozen r⟩, fun r hr h0 => (hy r hr).2 h0⟩
    rw [hV.top.cell hr, (hy r hr).1]

theorem ClU.came {w w1 : World} {n : Nat} {L : Nat → Nat} {X : Nat → Int} {A1 : Option Addr} {G : Nat} {A : Nat → Option Addr} {g : Nat → Nat} (h : ClU w w1 n L X A1 G A g) : Came w1 A1 G 0 n A L L g (fun _ => 0) X :=
  ⟨fun q => (h.nil q).1, fun r hr => by rw [Nat.zero_add]; exact (h.top r hr).1, fun r hr i hi => ⟨(h.row r hr (by omega)).1, by rw [Nat.zero_add]; exact (h.row r hr (by omega)).2.2.cell hi⟩⟩

theorem ClU.glt {w w1 : World} {n : Nat} {L : Nat → Nat} {X : Nat → Int} {A1 : Option Addr} {G : Nat} {A : Nat → Option Addr} {g : Nat → Nat} (h : ClU w w1 n L X A1 G A g) (r : Nat) (hr : r < n) (h0 : 0 < L r) : g r < w1.heap.size := (h.row r hr h0).2.2.lt

/-- A list of parts carried into a later world. -/
theorem Came.below {w w' : World} {A0 : Option Addr} {b off n : Nat} {A : Nat → Option Addr} {L C Ab Ao : Nat → Nat} {X : Nat → Int} (h : Came w A0 b off n A L C Ab Ao X) (hb : Below w.heap.size w w') : Came w' A0 b off n A L C Ab Ao X :=
  ⟨h.nil, fun r hr => (hb.cell (p := ⟨b, off + r, none⟩) (World.block_lt_of_cell? _ _ (h.row r hr))).trans (h.row r hr),
   fun r hr i hi => ⟨(h.cell r hr i hi).1, (hb.cell (p := ⟨Ab r, Ao r + i, none⟩) (World.block_lt_of_cell? _ _ (h.cell r hr i hi).2)).trans (h.cell r hr i hi).2⟩⟩

/-- The block of the list of parts; the Scanner's own where there is none. -/
def gOf (n G S : Nat) : Nat := if 0 < n then G else S

/-- A Scanner over cloned parts, nothing read yet. 'w2': any later world in which the parts are as they were cloned. -/
theorem st_init {w w1 w2 : World} {n : Nat} {L : Nat → Nat} {X : Nat → Int} {A1 : Option Addr} {G : Nat} {A : Nat → Option Addr} {g : Nat → Nat} (h : ClU w w1 n L X A1 G A g) (hb : ∀ k, w.heap.size ≤ k → k < w1.heap.size → w2.heap[k]? = w1.heap[k]?) (hs : w1.heap.size ≤ w2.heap.size) (lg : Bool) :
    St (newSc w2 (.slice A1 n n) lg) w2.heap.size (gOf n G w2.heap.size) n A g L X lg 0 A1 none 0 0 ((0 : Nat) : Int) ((0 : Nat) : Int) 0 0 := by
  refine ⟨Nat.zero_le _, newSc_row w2 _ lg, fun q => ?_, ⟨fun q => ?_, fun r _ hr => ?_, fun r hr h0 => ?_⟩, rfl, Or.inl ⟨rfl, rfl⟩⟩
  · rw [gOf, if_pos q]; exact (h.nil q).1
  · rw [gOf, if_pos q]
    have := h.nil q
    omega
  · rw [gOf, if_pos (by omega)]
    have hG := h.nil (by omega)
    have e : (newSc w2 (.slice A1 n n) lg).heap[G]? = w1.heap[G]? := (Below.heap_alloc _ _ _ (by omega)).trans (hb G hG.2.1 hG.2.2)
    exact ⟨(World.cell?_of_block (w := w1) e).trans (h.top r hr).1, (World.frozen?_of_block (w := w1) e).trans (h.top r hr).2⟩
  · rw [gOf, if_pos (by omega)]
    have hG := h.nil (by omega)
    obtain ⟨r1, r2, r3⟩ := h.row r hr h0
    have hlt := r3.lt
    have e : (newSc w2 (.slice A1 n n) lg).heap[g r]? = w1.heap[g r]? := (Below.heap_alloc _ _ _ (by omega)).trans (hb _ (by omega) hlt)
    exact ⟨r1, by omega, by omega, r3.of_block e⟩

theorem Keep.below {S G B : Nat} {a b : World} (h : Keep S G a b) (hS : B ≤ S) (hG : B ≤ G) (hB : B ≤ a.heap.size) : Below B a b :=
  ⟨h.os, h.tape, h.output, h.size, fun k hk => h.block k (by omega) (by omega) (by omega)⟩
theorem belowDrawn {B : Nat} {a b : World} (h : Below B a b) (q : Nat) : Below B a (b.drewN q) := ⟨h.os, h.tape, h.output, h.size, h.block⟩
theorem newSc_below {B : Nat} {a b : World} (h : Below B a b) (hB : B ≤ b.heap.size) (v : Value) (lg : Bool) : Below B a (newSc b v lg) := h.alloc hB _
theorem newSc_size (w : World) (v : Value) (lg : Bool) : (newSc w v lg).heap.size = w.heap.size + 1 := by simp [newSc]
theorem In.text {w1 w2 : World} {N : Nat} {X : Nat → Int} (h : In w1 w2 N N X) : w2.rowIs w1.heap.size 5 N (fun k => .int .u8 (X k)) := h.cur.congr (fun i hi => by rw [if_pos hi])
theorem newSc_keeps {w : World} {b : Nat} {t : TypeId} {n : Nat} {f : Nat → Value} (h : w.rowIs b t n f) (v : Value) (lg : Bool) : (newSc w v lg).rowIs b t n f := h.alloc _
theorem gOf_le {n G S B : Nat} (h1 : 0 < n → B ≤ G) (h2 : B ≤ S) : B ≤ gOf n G S := by
  unfold gOf; split
  · exact h1 ‹_›
  · exact h2
theorem gOf_lt {n G S B : Nat} (h1 : 0 < n → G < B) (h2 : S < B) : gOf n G S < B := by
  unfold gOf; split
  · exact h1 ‹_›
  · exact h2
theorem gOf_ne {n G S T : Nat} (h1 : 0 < n → T ≠ G) (h2 : T ≠ S) : T ≠ gOf n G S := by
  unfold gOf; split
  · exact h1 ‹_›
  · exact h2
end Go.Proofs.Qxb6628312a
