import Derived.WalkKit
import Derived.Deep.OwnRows
namespace Go.Proofs.Qxb6628312a
open Go.RowKit Go.Deep

/-- The first r lengths summed. -/
def psum (L : Nat → Nat) : Nat → Nat
  | 0 => 0
  | r + 1 => psum L r + L r

theorem psum_succ (L : Nat → Nat) (r : Nat) : psum L (r + 1) = psum L r + L r := rfl

theorem psum_mono (L : Nat → Nat) {a b : Nat} (h : a ≤ b) : psum L a ≤ psum L b := by
  induction b with
  | zero => have : a = 0 := by omega
            subst this; exact Nat.le_refl _
  | succ b ih =>
    by_cases e : a = b + 1
    · subst e; exact Nat.le_refl _
    · have := ih (by omega)
      rw [psum_succ]; omega

theorem psum_part (L : Nat → Nat) {r n : Nat} (h : r < n) : psum L r + L r ≤ psum L n := by
  have := psum_mono L (show r + 1 ≤ n from h)
  rw [psum_succ] at this
  exact this

/-- The whole text by the index. -/
def txt (L : Nat → Nat) (Z : Nat → Nat → Int) : Nat → Nat → Int
  | 0, _ => 0
  | n + 1, k => if k < psum L n then txt L Z n k else Z n (k - psum L n)

theorem txt_at (L : Nat → Nat) (Z : Nat → Nat → Int) (n : Nat) : ∀ r i, r < n → i < L r → txt L Z n (psum L r + i) = Z r i := by
  induction n with
  | zero => intro r i h; omega
  | succ n ih =>
    intro r i hr hi
    unfold txt
    by_cases e : r = n
    · subst e
      rw [if_neg (by omega)]
      congr 1
      omega
    · have := psum_part L (show r < n by omega)
      rw [if_pos (by omega)]
      exact ih r i (by omega) hi

/-- A row carried through 'Below'. -/
theorem rowIs_below {w w' : World} {B b : Nat} {t : TypeId} {n : Nat} {f : Nat → Value} (h : w.rowIs b t n f) (hb : Below B w w') (hlt : b < B) : w'.rowIs b t n f :=
  h.of_block (hb.block b hlt)

/-- The slice value v is a part of l bytes f, in a block beyond B of its own. -/
def PartAt (w : World) (B : Nat) (v : Value) (l : Nat) (f : Nat → Int) : Prop :=
  ∃ A, v = .slice A l l ∧ (0 < l → ∃ g, B < g ∧ A = some ⟨g, 0, none⟩ ∧ w.rowIs g 5 l (fun i => .int .u8 (f i)))

theorem PartAt.below {w w' : World} {B : Nat} {v : Value} {l : Nat} {f : Nat → Int} (h : PartAt w B v l f) (hb : Below w.heap.size w w') : PartAt w' B v l f := by
  obtain ⟨A, hv, hg⟩ := h
  refine ⟨A, hv, fun h0 => ?_⟩
  obtain ⟨g, h1, h2, h3⟩ := hg h0
  exact ⟨g, h1, h2, rowIs_below h3 hb h3.lt⟩

theorem PartAt.setCell {w : World} {B : Nat} {v : Value} {l : Nat} {f : Nat → Int} (h : PartAt w B v l f) (i : Nat) (u : Value) : PartAt (w.setCell ⟨B, i, none⟩ u) B v l f := by
  obtain ⟨A, hv, hg⟩ := h
  refine ⟨A, hv, fun h0 => ?_⟩
  obtain ⟨g, h1, h2, h3⟩ := hg h0
  exact ⟨g, h1, h2, h3.setOther (show g ≠ B by omega) _⟩

/-- What zzCloneParts has made when k parts are done. -/
structure Cl (w wr : World) (n k : Nat) (L : Nat → Nat) (X : Nat → Int) (V : Nat → Value) : Prop where
  below : Below w.heap.size w wr
  top : wr.rowIs w.heap.size 24 n V
  done : ∀ r, r < k → PartAt wr w.heap.size (V r) (L r) (fun i => X (psum L r + i))
  rest : ∀ r, k ≤ r → r < n → V r = .slice none 0 0

def Cloned (w wr : World) (n k : Nat) (L : Nat → Nat) (X : Nat → Int) : Prop := ∃ V, Cl w wr n k L X V

theorem cl_start (w : World) (n : Nat) (L : Nat → Nat) (X : Nat → Int) : Cloned w (w.alloc (.cells (madeCells #[.slice none 0 0] n) 24)) n 0 L X :=
  ⟨fun _ => .slice none 0 0, (Below.refl _ _).alloc (Nat.le_refl _) _, World.rowIs_made w _ n 24, fun _ hr => absurd hr (Nat.not_lt_zero _), fun _ _ _ => rfl⟩

/-- A nil part is passed over. -/
theorem cl_nil {w wr : World} {n k : Nat} {L : Nat → Nat} {X : Nat → Int} (h : Cloned w wr n k L X) (hk : k < n) (hL : L k = 0) : Cloned w wr n (k + 1) L X := by
  obtain ⟨V, h⟩ := h
  refine ⟨V, h.below, h.top, fun r hr => ?_, fun r hr => h.rest r (by omega)⟩
  by_cases e : r = k
  · subst e
    refine ⟨none, ?_, fun h0 => by omega⟩
    rw [hL]; exact h.rest r (Nat.le_refl _) hk
  · exact h.done r (by omega)

/-- The inner loop: the new row, j of its bytes copied. -/
structure In (wo wi : World) (l j : Nat) (f : Nat → Int) : Prop where
  below : Below wo.heap.size wo wi
  cur : wi.rowIs wo.heap.size 5 l (fun i => if i < j then .int .u8 (f i) else .int .u8 0)

theorem in_start (wo : World) (l : Nat) (f : Nat → Int) : In wo (wo.alloc (.cells (madeCells #[.int .u8 0] l) 5)) l 0 f :=
  ⟨(Below.refl _ _).alloc (Nat.le_refl _) _, (World.rowIs_made wo _ l 5).congr (fun i _ => by simp)⟩

theorem in_step {wo wi : World} {l j : Nat} {f : Nat → Int} (h : In wo wi l j f) : In wo (wi.setCell ⟨wo.heap.size, j, none⟩ (.int .u8 (f j))) l (j + 1) f := by
  refine ⟨h.below.setCell (Nat.le_refl _) _, (h.cur.set j _).congr (fun i _ => ?_)⟩
  by_cases e : i = j
  · subst e; simp
  · rw [if_neg e]
    by_cases hlt : i < j
    · rw [if_pos hlt, if_pos (by omega)]
    · rw [if_neg hlt, if_neg (by omega)]

/-- The part is copied and laid into the new list of parts. -/
theorem in_done {w wo wi : World} {n k : Nat} {L : Nat → Nat} {X : Nat → Int} (h : Cloned w wo n k L X) (hi : In wo wi (L k) (L k) (fun i => X (psum L k + i))) :
    Cloned w (wi.setCell ⟨w.heap.size, k, none⟩ (.slice (some ⟨wo.heap.size, 0, none⟩) (L k) (L k))) n (k + 1) L X := by
  obtain ⟨V, h⟩ := h
  have hlt := h.top.lt
  have hbel : Below w.heap.size w wi := h.below.trans (hi.below.mono (by omega))
  refine ⟨fun j => if j = k then .slice (some ⟨wo.heap.size, 0, none⟩) (L k) (L k) else V j, hbel.setCell (Nat.le_refl _) _, (rowIs_below h.top hi.below hlt).set k _, fun r hr => ?_, fun r hr hn => ?_⟩
  · by_cases e : r = k
    · subst e
      refine ⟨some ⟨wo.heap.size, 0, none⟩, by simp, fun _ => ⟨wo.heap.size, hlt, rfl, ?_⟩⟩
      exact (hi.cur.setOther (show wo.heap.size ≠ w.heap.size by omega) _).congr (fun i hi => by rw [if_pos hi])
    · simp only [if_neg e]
      exact ((h.done r (by omega)).below hi.below).setCell k _
  · simp only [if_neg (show r ≠ k by omega)]
    exact h.rest r (by omega) hn
end Go.Proofs.Qxb6628312a
