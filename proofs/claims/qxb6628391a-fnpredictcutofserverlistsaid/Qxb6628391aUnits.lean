import Derived.Test.Qxb6628391aRows
import Derived.Test.Qxb6628391aPlain
import Derived.WalkSpells
import Derived.Deep.LoopGhost
import Derived.Deep.OwnRows
import Derived.Laws.CopyOwn
namespace Go.Proofs.Qxb6628391a
open Go.RowKit Go.Deep

/-- A slice of n groups X. -/
structure Row (w : World) (A0 : Option Addr) (b off n : Nat) (X : Nat → Int) : Prop where
  nil : 0 < n → A0 = some ⟨b, off, none⟩
  cell : ∀ i, i < n → w.cell? ⟨b, off + i, none⟩ = some (.int .u16 (X i))

theorem Row.below {w w' : World} {A0 : Option Addr} {b off n : Nat} {X : Nat → Int} (h : Row w A0 b off n X) (hb : Below w.heap.size w w') : Row w' A0 b off n X :=
  ⟨h.nil, fun i hi => (hb.cell (p := ⟨b, off + i, none⟩) (World.block_lt_of_cell? _ _ (h.cell i hi))).trans (h.cell i hi)⟩

/-- It returned some bool. -/
def IsBool (e : Ending) : Prop := ∃ r, e = .returned (.bool r)
theorem IsBool.mk (r : Bool) : IsBool (.returned (.bool r)) := ⟨r, rfl⟩

set_option maxHeartbeats 400000 in
theorem bytes_any (A0 : Option Addr) (n c : Nat) (A1 : Option Addr) (n1 c1 : Nat) (x k : Int) (w : World) :
    Calls Try.prog 5 #[.slice A0 n c, .slice A1 n1 c1, .int .u16 x, .int .i64 k] w fun e w' => IsBool e ∧ w = w' := by
  go_enter Try.func5, Try.ntmps5
  go_wp2
  all_goals
    go_ret
    exact ⟨IsBool.mk _, rfl⟩

set_option maxHeartbeats 400000 in
theorem bytes2_any (A0 : Option Addr) (n c : Nat) (A1 : Option Addr) (n1 c1 : Nat) (k : Int) (w : World) :
    Calls Try.prog 8 #[.slice A0 n c, .slice A1 n1 c1, .int .i64 k] w fun e w' => IsBool e ∧ w = w' := by
  go_enter Try.func8, Try.ntmps8
  go_wp2
  all_goals
    go_ret
    exact ⟨IsBool.mk _, rfl⟩

set_option maxHeartbeats 400000 in
theorem has_any (A0 : Option Addr) (b off n c : Nat) (S : Nat → Int) (v : Int) (w : World) (hn : n ≤ 9223372036854775807) (h : Row w A0 b off n S) :
    Calls Try.prog 9 #[.slice A0 n c, .int .u16 v] w fun e w' => e = .returned (.bool (hasB S v n)) ∧ w = w' := by
  have H : Hid (Row w A0 b off n S) := h
  clear h
  go_enter Try.func9, Try.ntmps9
  go_wp2
  go_loop [5] (fun i => ∃ k : Nat, k ≤ n ∧ i = .int .i64 k ∧ Hid (∀ j, j < k → S j ≠ v)) (fun i => n - (intOf i).toNat)
  case atStart => exact ⟨0, Nat.zero_le _, rfl, fun j hj => by omega⟩
  case round =>
    obtain ⟨k, hk, rfl, hno⟩ := hrel
    by_cases hlt : k < n
    · have e := H.out.nil (by omega)
      subst e
      have hc := H.out.cell k hlt
      by_cases hq : S k = v
      · have hq' : (S k == v) = true := by simpa using hq
        have HT : Hid (hasB S v n = true) := (hasB_iff S v n).2 ⟨k, hlt, hq⟩
        clear hq
        go_wp2
        go_ret
        rw [HT.out]
        exact ⟨rfl, rfl⟩
      · have hq' : (S k == v) = false := by simpa using hq
        have HQ : Hid (S k ≠ v) := hq
        clear hq
        go_wp2
        go_round
        case rel => exact ⟨k + 1, by omega, by go_num, fun j hj => by
          by_cases e : j = k
          · subst e; exact HQ.out
          · exact hno.out j (by omega)⟩
        case measure => simp [intOf]; omega
    · have HT : Hid (hasB S v n = false) := hasB_not S v n (fun i hi => hno.out i (by omega))
      go_wp2
      go_ret
      rw [HT.out]
      exact ⟨rfl, rfl⟩

def FirstSaid (e : Ending) (X : Nat → Int) (n : Nat) (v : Int) : Prop := ∃ r, e = .returned (.int .i64 r) ∧ First X n v r

set_option maxHeartbeats 400000 in
theorem first_any (A0 : Option Addr) (b off n c : Nat) (S : Nat → Int) (v : Int) (w : World) (hn : n ≤ 9223372036854775807) (h : Row w A0 b off n S) :
    Calls Try.prog 7 #[.slice A0 n c, .int .u16 v] w fun e w' => FirstSaid e S n v ∧ w = w' := by
  have H : Hid (Row w A0 b off n S) := h
  clear h
  go_enter Try.func7, Try.ntmps7
  go_wp2
  go_loop [5] (fun i => ∃ k : Nat, k ≤ n ∧ i = .int .i64 k ∧ Hid (∀ j, j < k → S j ≠ v)) (fun i => n - (intOf i).toNat)
  case atStart => exact ⟨0, Nat.zero_le _, rfl, fun j hj => by omega⟩
  case round =>
    obtain ⟨k, hk, rfl, hno⟩ := hrel
    by_cases hlt : k < n
    · have e := H.out.nil (by omega)
      subst e
      have hc := H.out.cell k hlt
      by_cases hq : S k = v
      · have hq' : (S k == v) = true := by simpa using hq
        have HT : Hid (First S n v k) := Or.inr ⟨k, hlt, rfl, hq, hno.out⟩
        clear hq
        go_wp2
        go_ret
        exact ⟨⟨_, rfl, HT.out⟩, rfl⟩
      · have hq' : (S k == v) = false := by simpa using hq
        have HQ : Hid (S k ≠ v) := hq
        clear hq
        go_wp2
        go_round
        case rel => exact ⟨k + 1, by omega, by go_num, fun j hj => by
          by_cases e : j = k
          · subst e; exact HQ.out
          · exact hno.out j (by omega)⟩
        case measure => simp [intOf]; omega
    · have HT : Hid (First S n v (-1)) := Or.inl ⟨rfl, fun i hi => hno.out i (by omega)⟩
      go_wp2
      go_ret
      exact ⟨⟨_, rfl, HT.out⟩, rfl⟩

def PredSaid (e : Ending) (X : Nat → Int) (n : Nat) (S : Nat → Int) (m : Nat) : Prop := ∃ g ok, e = .returned (.tuple #[.int .u16 g, .bool ok]) ∧ Pred X n S m g ok

set_option maxHeartbeats 1600000 in
theorem predict_any (A0 : Option Addr) (b off n c : Nat) (X : Nat → Int) (A1 : Option Addr) (b1 off1 m c1 : Nat) (S : Nat → Int) (w : World) (hn : n ≤ 9223372036854775807) (hm : m ≤ 9223372036854775807) (h : Row w A0 b off n X) (h1 : Row w A1 b1 off1 m S) :
    Calls Try.prog 6 #[.slice A0 n c, .slice A1 m c1] w fun e w' => PredSaid e X n S m ∧ w = w' := by
  have H : Hid (Row w A0 b off n X) := h
  have H1 : Hid (Row w A1 b1 off1 m S) := h1
  clear h h1
  go_enter Try.func6, Try.ntmps6
  go_wp2
  go_loop [12] (fun i => ∃ k : Nat, k ≤ n ∧ i = .int .i64 k ∧ Hid (∀ j, j < k → hasB S (X j) m = false)) (fun i => n - (intOf i).toNat)
  case atStart => exact ⟨0, Nat.zero_le _, rfl, fun j hj => by omega⟩
  case round =>
    obtain ⟨k, hk, rfl, hno⟩ := hrel
    by_cases hlt : k < n
    · have e := H.out.nil (by omega)
      subst e
      have hc := H.out.cell k hlt
      go_wp2
      go_loop [18] (fun i => ∃ j : Nat, j ≤ m ∧ i = .int .i64 j ∧ Hid (∀ r, r < j → S r ≠ X k)) (fun i => m - (intOf i).toNat)
      case atStart => exact ⟨0, Nat.zero_le _, rfl, fun j hj => by omega⟩
      case round =>
        obtain ⟨j, hj, rfl, hmo⟩ := hrel
        clear hc
        by_cases hjm : j < m
        · have e := H1.out.nil (by omega)
          subst e
          have hc := H1.out.cell j hjm
          by_cases hq : X k = S j
          · have hq' : (X k == S j) = true := by simpa using hq
            have HT : Hid (Pred X n S m (X k) true) := Or.inl ⟨rfl, k, hlt, rfl, (hasB_iff S (X k) m).2 ⟨j, hjm, hq.symm⟩, hno.out⟩
            clear hq
            go_wp2
            go_ret2
            exact ⟨⟨_, _, rfl, HT.out⟩, rfl⟩
          · have hq' : (X k == S j) = false := by simpa using hq
            have HQ : Hid (S j ≠ X k) := fun e => hq e.symm
            clear hq
            go_wp2
            go_round
            case rel => exact ⟨j + 1, by omega, by go_num, fun r hr => by
              by_cases e : r = j
              · subst e; exact HQ.out
              · exact hmo.out r (by omega)⟩
            case measure => simp [intOf]; omega
        · have HT : Hid (hasB S (X k) m = false) := hasB_not S (X k) m (fun i hi => hmo.out i (by omega))
          go_wp2
          go_round
          case rel => exact ⟨k + 1, by omega, by go_num, fun r hr => by
            by_cases e : r = k
            · subst e; exact HT.out
            · exact hno.out r (by omega)⟩
          case measure => simp [intOf]; omega
    · have HT : Hid (Pred X n S m 0 false) := Or.inr ⟨rfl, rfl, fun i hi => hno.out i (by omega)⟩
      go_wp2
      go_ret2
      exact ⟨⟨_, _, rfl, HT.out⟩, rfl⟩

theorem info23 : (Try.prog.info? 23).map (fun i => (i.zero, i.size, i.bytes)) = some (some (.int .u16 0), 1, 2) := by kernel_rfl
theorem size23 : (Try.prog.info? 23).map (·.size) = some 1 := by kernel_rfl

/-- The cells of n groups. -/
def cellsOf (X : Nat → Int) (n : Nat) : List Value := (List.range n).map (fun i => .int .u16 (X i))
theorem cellsOf_length (X : Nat → Int) (n : Nat) : (cellsOf X n).length = n := by simp [cellsOf]
theorem cellsOf_at (X : Nat → Int) (n : Nat) {i : Nat} (h : i < n) : (cellsOf X n)[i]? = some (.int .u16 (X i)) := by simp [cellsOf, h]
theorem cellsOf_one (X : Nat → Int) (n : Nat) : ∀ v ∈ cellsOf X n, v.oneCell' = true := by
  intro v hv
  simp only [cellsOf, List.mem_map] at hv
  obtain ⟨i, _, rfl⟩ := hv
  rfl

theorem copied_row {w' : World} {g n : Nat} {X : Nat → Int} (h : w'.heap[g]? = some (.cells (cellsOf X n).toArray 23 (0, 0))) : w'.rowIs g 23 n (fun i => .int .u16 (X i)) :=
  ⟨_, h, by simp [cellsOf_length], fun i hi => by simpa using cellsOf_at X n hi⟩

theorem rowIs_Row {w : World} {g t n : Nat} {X : Nat → Int} (h : w.rowIs g t n (fun i => .int .u16 (X i))) : Row w (some ⟨g, 0, none⟩) g 0 n X :=
  ⟨fun _ => rfl, fun i hi => by rw [Nat.zero_add]; exact h.cell hi⟩

/-- copy(zzc, l), zzc new and as long as l: zzc holds what l holds. -/
theorem copy_ex (w : World) (a0 : Addr) (b off n c : Nat) (X : Nat → Int) (h : Row w (some a0) b off n X) :
    ∃ w2, (Builtin.copy_ #[22, 22] 3 #[.slice (some ⟨w.heap.size, 0, none⟩) n n, .slice (some a0) n c]).run Try.prog (w.alloc (.cells (madeCells #[.int .u16 0] n) 23)) = .ok (goInt n) w2 ∧ w2.rowIs w.heap.size 23 n (fun i => .int .u16 (X i)) ∧ Below w.heap.size w w2 := by
  have hb : Below w.heap.size w (w.alloc (.cells (madeCells #[.int .u16 0] n) 23)) := (Below.refl _ _).alloc (Nat.le_refl _) _
  by_cases h0 : n = 0
  · subst h0
    refine ⟨_, run_copy_none (P := Try.prog) _ 22 22 3 23 _ _ 0 0 0 c Try.underlying22 size23 rfl, ?_, hb⟩
    exact (World.rowIs_made w _ 0 23).congr (fun i hi => by omega)
  · have ea := h.nil (by omega)
    injection ea with ea
    subst ea
    have hg : (w.alloc (.cells (madeCells #[.int .u16 0] n) 23)).heap[w.heap.size]? = some (.cells (madeCells #[.int .u16 0] n) 23 (0, 0)) := by
      show (w.heap.push _)[w.heap.size]? = _
      simp
    have hrun := run_copy_row (P := Try.prog) (w.alloc (.cells (madeCells #[.int .u16 0] n) 23)) 22 22 3 23 w.heap.size 0 n n ⟨b, off, none⟩ n c (madeCells #[.int .u16 0] n) 23 (cellsOf X n) Try.underlying22 size23 hg
      (by rw [cellsOf_length]; exact (Nat.min_self n).symm) (fun j v hv => by
        have hj : j < n := by
          have := (List.getElem?_eq_some_iff.1 hv).1
          rwa [cellsOf_length] at this
        rw [cellsOf_at X n hj] at hv
        rw [WideShapes.add_plain, ← hv]
        exact (h.below hb).cell j hj) (by rw [cellsOf_length, size_madeCells]; omega) (cellsOf_one X n)
    have e : ((madeCells #[.int .u16 0] n).toList.take 0 ++ cellsOf X n ++ (madeCells #[.int .u16 0] n).toList.drop (0 + (cellsOf X n).length)).toArray = (cellsOf X n).toArray := by
      rw [List.take_zero, List.nil_append, cellsOf_length, List.drop_eq_nil_of_le (by rw [Array.length_toList, size_madeCells]; omega), List.append_nil]
    rw [e, cellsOf_length] at hrun
    refine ⟨_, hrun, copied_row ?_, below_setRow hb (Nat.le_refl _) _⟩
    unfold World.setRow
    simp only [Array.getElem?_modify]
    rw [if_pos trivial, hg]
    rfl
end Go.Proofs.Qxb6628391a
