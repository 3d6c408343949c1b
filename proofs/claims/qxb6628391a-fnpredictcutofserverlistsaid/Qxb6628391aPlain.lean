import Derived.WalkKit
namespace Go.Proofs.Qxb6628391a

/-- Does v stand among the first m of S? -/
def hasB (S : Nat → Int) (v : Int) : Nat → Bool
  | 0 => false
  | m + 1 => hasB S v m || (S m == v)

theorem hasB_iff (S : Nat → Int) (v : Int) : ∀ m, hasB S v m = true ↔ ∃ i, i < m ∧ S i = v := by
  intro m
  induction m with
  | zero => simp [hasB]
  | succ m ih =>
    simp only [hasB, Bool.or_eq_true, ih, beq_iff_eq]
    constructor
    · rintro (⟨i, h1, h2⟩ | h)
      · exact ⟨i, by omega, h2⟩
      · exact ⟨m, by omega, h⟩
    · rintro ⟨i, h1, h2⟩
      by_cases e : i = m
      · subst e; exact Or.inr h2
      · exact Or.inl ⟨i, by omega, h2⟩

theorem hasB_not (S : Nat → Int) (v : Int) (m : Nat) (h : ∀ i, i < m → S i ≠ v) : hasB S v m = false := by
  cases hb : hasB S v m with
  | false => rfl
  | true =>
    obtain ⟨i, h1, h2⟩ := (hasB_iff S v m).1 hb
    exact absurd h2 (h i h1)

/-- What Predict answers: the first of X that S holds. -/
def Pred (X : Nat → Int) (n : Nat) (S : Nat → Int) (m : Nat) (g : Int) (ok : Bool) : Prop :=
  (ok = true ∧ ∃ j, j < n ∧ g = X j ∧ hasB S (X j) m = true ∧ ∀ i, i < j → hasB S (X i) m = false) ∨ (ok = false ∧ g = 0 ∧ ∀ i, i < n → hasB S (X i) m = false)

/-- What zzFirstAt answers: the least index of v, or -1. -/
def First (X : Nat → Int) (n : Nat) (v : Int) (r : Int) : Prop :=
  (r = -1 ∧ ∀ i, i < n → X i ≠ v) ∨ ∃ j : Nat, j < n ∧ r = j ∧ X j = v ∧ ∀ i, i < j → X i ≠ v

/-- x put in at place k. -/
def ins (S : Nat → Int) (k : Nat) (x : Int) (i : Nat) : Int := if i < k then S i else if i = k then x else S (i - 1)

theorem hasB_ins (S : Nat → Int) (k : Nat) (x v : Int) (m : Nat) (hk : k ≤ m) : hasB (ins S k x) v (m + 1) = (hasB S v m || (x == v)) := by
  rw [Bool.eq_iff_iff]
  simp only [Bool.or_eq_true, hasB_iff, beq_iff_eq]
  constructor
  · rintro ⟨i, h1, h2⟩
    unfold ins at h2
    by_cases a : i < k
    · rw [if_pos a] at h2; exact Or.inl ⟨i, by omega, h2⟩
    · rw [if_neg a] at h2
      by_cases b : i = k
      · rw [if_pos b] at h2; exact Or.inr h2
      · rw [if_neg b] at h2; exact Or.inl ⟨i - 1, by omega, h2⟩
  · rintro (⟨i, h1, h2⟩ | h)
    · by_cases a : i < k
      · exact ⟨i, by omega, by unfold ins; rw [if_pos a]; exact h2⟩
      · exact ⟨i + 1, by omega, by unfold ins; rw [if_neg (by omega), if_neg (by omega)]; exact h2⟩
    · exact ⟨k, by omega, by unfold ins; rw [if_neg (by omega), if_pos rfl]; exact h⟩

theorem pred_unique {X : Nat → Int} {n : Nat} {S : Nat → Int} {m : Nat} {g g' : Int} {ok ok' : Bool} (h : Pred X n S m g ok) (h' : Pred X n S m g' ok') : g = g' ∧ ok = ok' := by
  rcases h with ⟨rfl, j, h1, rfl, h3, h4⟩ | ⟨rfl, rfl, h3⟩ <;> rcases h' with ⟨rfl, j', k1, rfl, k3, k4⟩ | ⟨rfl, rfl, k3⟩
  · have : j = j' := by
      by_cases a : j < j'
      · have := k4 j a; rw [h3] at this; cases this
      · by_cases b : j' < j
        · have := h4 j' b; rw [k3] at this; cases this
        · omega
    subst this
    exact ⟨rfl, rfl⟩
  · have := k3 j h1; rw [h3] at this; cases this
  · have := h3 j' k1; rw [k3] at this; cases this
  · exact ⟨rfl, rfl⟩

section
variable {X S : Nat → Int} {n m k : Nat} {x g0 g1 ix iy : Int} {ok0 ok1 : Bool}

/-- x does not stand in l: the prediction is as it was. -/
theorem add_out (hk : k ≤ m) (h0 : Pred X n S m g0 ok0) (h1 : Pred X n (ins S k x) (m + 1) g1 ok1) (hx : First X n x ix) (hneg : ix < 0) : g1 = g0 ∧ ok1 = ok0 := by
  have out : ∀ i, i < n → X i ≠ x := by
    rcases hx with ⟨_, h⟩ | ⟨j, _, e, _⟩
    · exact h
    · omega
  have same : ∀ i, i < n → hasB (ins S k x) (X i) (m + 1) = hasB S (X i) m := fun i hi => by
    rw [hasB_ins S k x (X i) m hk]
    have : (x == X i) = false := by simpa using fun e => out i hi e.symm
    rw [this, Bool.or_false]
  refine pred_unique h1 ?_
  rcases h0 with ⟨rfl, j, q1, rfl, q3, q4⟩ | ⟨rfl, rfl, q3⟩
  · exact Or.inl ⟨rfl, j, q1, rfl, by rw [same j q1]; exact q3, fun i hi => by rw [same i (by omega)]; exact q4 i hi⟩
  · exact Or.inr ⟨rfl, rfl, fun i hi => by rw [same i hi]; exact q3 i hi⟩

/-- x stands in l and nothing was predicted: x is. -/
theorem add_new (hk : k ≤ m) (h0 : Pred X n S m g0 false) (h1 : Pred X n (ins S k x) (m + 1) g1 ok1) (hx : First X n x ix) (hpos : ¬ ix < 0) : g1 = x ∧ ok1 = true := by
  rcases h0 with ⟨h, _⟩ | ⟨_, _, none⟩
  · cases h
  rcases hx with ⟨e, _⟩ | ⟨j, q1, _, rfl, q4⟩
  · omega
  refine pred_unique h1 (Or.inl ⟨rfl, j, q1, rfl, ?_, fun i hi => ?_⟩)
  · rw [hasB_ins S k _ _ m hk]; simp
  · rw [hasB_ins S k _ _ m hk, none i (by omega)]
    simpa using fun e => q4 i hi e.symm

/-- x stands in l ahead of what was predicted: x is. -/
theorem add_before (hk : k ≤ m) (h0 : Pred X n S m g0 true) (h1 : Pred X n (ins S k x) (m + 1) g1 ok1) (hx : First X n x ix) (hy : First X n g0 iy) (hpos : ¬ ix < 0) (hlt : ix < iy) : g1 = x ∧ ok1 = true := by
  rcases h0 with ⟨_, j0, p1, rfl, p3, p4⟩ | ⟨h, _⟩
  · rcases hx with ⟨e, _⟩ | ⟨j, q1, rfl, rfl, q4⟩
    · omega
    rcases hy with ⟨e, _⟩ | ⟨y, y1, rfl, y3, y4⟩
    · omega
    have yj : y ≤ j0 := by
      by_cases a : j0 < y
      · exact absurd rfl (y4 j0 a)
      · omega
    refine pred_unique h1 (Or.inl ⟨rfl, j, q1, rfl, ?_, fun i hi => ?_⟩)
    · rw [hasB_ins S k _ _ m hk]; simp
    · rw [hasB_ins S k _ _ m hk, p4 i (by omega)]
      simpa using fun e => q4 i hi e.symm
  · cases h

/-- x stands in l, not ahead of what was predicted: the prediction is as it was. -/
theorem add_behind (hk : k ≤ m) (h0 : Pred X n S m g0 true) (h1 : Pred X n (ins S k x) (m + 1) g1 ok1) (hx : First X n x ix) (hy : First X n g0 iy) (hpos : ¬ ix < 0) (hlt : ¬ ix < iy) : g1 = g0 ∧ ok1 = true := by
  rcases h0 with ⟨_, j0, p1, rfl, p3, p4⟩ | ⟨h, _⟩
  · rcases hx with ⟨e, _⟩ | ⟨j, q1, rfl, rfl, q4⟩
    · omega
    rcases hy with ⟨e, yn⟩ | ⟨y, y1, rfl, y3, y4⟩
    · exact absurd rfl (yn j0 p1)
    have yj : j0 ≤ y := by
      by_cases a : y < j0
      · have := p4 y a; rw [y3, p3] at this; cases this
      · omega
    refine pred_unique h1 (Or.inl ⟨rfl, j0, p1, rfl, ?_, fun i hi => ?_⟩)
    · rw [hasB_ins S k _ _ m hk, p3]; rfl
    · rw [hasB_ins S k _ _ m hk, p4 i hi]
      simpa using fun e => q4 i (by omega) e.symm
  · cases h

/-- With no supported group nothing is predicted. -/
theorem pred_none {g : Int} {ok : Bool} (h : Pred X n S 0 g ok) : g = 0 ∧ ok = false := by
  rcases h with ⟨_, j, _, _, h3, _⟩ | ⟨h1, h2, _⟩
  · cases h3
  · exact ⟨h2, h1⟩
end

section
variable {X S : Nat → Int} {n m k : Nat} {a b c e o : Int} {aok bok cok eok ook : Bool}

/-- The prediction over a cut list. -/
theorem cut_law (hk : k ≤ n) (ha : Pred X k S m a aok) (hb : Pred (fun i => X (k + i)) (n - k) S m b bok) (hc : Pred X n S m c cok) : c = (if aok then a else b) ∧ cok = (if aok then aok else bok) := by
  refine pred_unique hc ?_
  rcases ha with ⟨rfl, j, q1, rfl, q3, q4⟩ | ⟨rfl, rfl, q3⟩
  · exact Or.inl ⟨rfl, j, by omega, rfl, q3, q4⟩
  · rcases hb with ⟨rfl, j, p1, rfl, p3, p4⟩ | ⟨rfl, rfl, p3⟩
    · refine Or.inl ⟨rfl, k + j, by omega, rfl, p3, fun i hi => ?_⟩
      by_cases h : i < k
      · exact q3 i h
      · have : hasB S (X (k + (i - k))) m = false := p4 (i - k) (by omega)
        rwa [show k + (i - k) = i by omega] at this
    · refine Or.inr ⟨rfl, rfl, fun i hi => ?_⟩
      by_cases h : i < k
      · exact q3 i h
      · have : hasB S (X (k + (i - k))) m = false := p3 (i - k) (by omega)
        rwa [show k + (i - k) = i by omega] at this

theorem pred_empty (h : Pred X 0 S m e eok) : e = 0 ∧ eok = false := by
  rcases h with ⟨_, j, h1, _⟩ | ⟨h1, h2, _⟩
  · omega
  · exact ⟨h2, h1⟩

/-- One group alone, supported. -/
theorem one_yes (h : Pred X 1 S m o ook) (hs : hasB S (X 0) m = true) : o = X 0 ∧ ook = true :=
  pred_unique h (Or.inl ⟨rfl, 0, by omega, rfl, hs, fun i hi => by omega⟩)
theorem one_no (h : Pred X 1 S m o ook) (hs : hasB S (X 0) m = false) : o = 0 ∧ ook = false :=
  pred_unique h (Or.inr ⟨rfl, rfl, fun i hi => by rw [show i = 0 by omega]; exact hs⟩)
theorem head_yes (hn : 0 < n) (h : Pred X n S m o ook) (hs : hasB S (X 0) m = true) : o = X 0 ∧ ook = true :=
  pred_unique h (Or.inl ⟨rfl, 0, hn, rfl, hs, fun i hi => by omega⟩)
end
end Go.Proofs.Qxb6628391a
