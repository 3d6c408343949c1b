import Derived.Test.Qxb6628367aRows
import Derived.Test.Qxb6628367aMem
import Derived.WalkSpells
import Derived.Deep.LoopGhost
import Derived.Deep.QuietTactic
import Derived.BigQuiet
namespace Go.Proofs.Qxb6628367a
open Go.RowKit Go.Deep

/-- It returned some bool. -/
def IsBool (e : Ending) : Prop := ∃ r, e = .returned (.bool r)
theorem IsBool.mk (r : Bool) : IsBool (.returned (.bool r)) := ⟨r, rfl⟩
/-- It returned some int. -/
def IsInt (e : Ending) : Prop := ∃ r, e = .returned (.int .i64 r)
theorem IsInt.mk (r : Int) : IsInt (.returned (.int .i64 r)) := ⟨r, rfl⟩

set_option maxHeartbeats 1600000 in
theorem size_any (A0 : Option Addr) (b off n c : Nat) (K : Nat → ByteArray) (A : Nat → Option Addr) (L C : Nat → Nat) (t : Int) (w : World) (hn : n ≤ 9223372036854775807) (h : Fs w A0 b off n K A L C) :
    Calls Try.prog 5 #[.slice A0 n c, .int .i64 t] w fun e w' => IsInt e ∧ ∃ q, w' = w.drewN q := by
  have H : Hid (Fs w A0 b off n K A L C) := h
  clear h
  go_enter Try.func5, Try.ntmps5
  go_wp2
  go_loopg [1, 5] n (fun gk s i wr => ∃ (k q : Nat) (z : Int), k ≤ n ∧ gk = n - k ∧ i = .int .i64 k ∧ s = .int .i64 z ∧ wr = w.drewN q)
  case atStart => exact ⟨0, 0, t, Nat.zero_le _, rfl, rfl, rfl, rfl⟩
  case round =>
    obtain ⟨k, q, z, hk, rfl, rfl, rfl, rfl⟩ := hrel
    by_cases hlt : k < n
    · have e := H.out.nil (by omega)
      subst e
      have hc := H.out.key k hlt
      have hv := H.out.val k hlt
      have i0 : (k : Int) < n := by omega
      by_cases h1 : (1048576 : Int) < (K k).size
      · go_wp2
        go_ret
        exact ⟨IsInt.mk _, q, rfl⟩
      · by_cases h2 : (1048576 : Int) < (L k : Nat)
        · go_wp2
          go_ret
          exact ⟨IsInt.mk _, q, rfl⟩
        · go_wp2
          go_quiet (fail)
          go_wp2
          · go_ret
            exact ⟨IsInt.mk _, _, rfl⟩
          · go_roundg (n - (k + 1))
            case measure => omega
            case rel => exact ⟨k + 1, _, _, by omega, rfl, by go_num, rfl, rfl⟩
    · go_wp2
      go_ret
      exact ⟨IsInt.mk _, q, rfl⟩

set_option maxHeartbeats 1600000 in
set_option maxRecDepth 100000 in
theorem bytes_any (A0 : Option Addr) (b off n c : Nat) (K : Nat → ByteArray) (A : Nat → Option Addr) (L C : Nat → Nat) (A1 : Option Addr) (b1 off1 n1 c1 : Nat) (K1 : Nat → ByteArray) (B1 : Nat → Option Addr) (L1 C1 : Nat → Nat)
    (key : ByteArray) (V : Option Addr) (vl vc : Nat) (w : World) (hn : n ≤ 9223372036854775807) (hn1 : n1 ≤ 9223372036854775807) (h : Fs w A0 b off n K A L C) (h1 : Fs w A1 b1 off1 n1 K1 B1 L1 C1) :
    Calls Try.prog 4 #[.slice A0 n c, .slice A1 n1 c1, .string key, .slice V vl vc] w fun e w' => IsBool e ∧ w' = w := by
  have H : Hid (Fs w A0 b off n K A L C) := h
  have H1 : Hid (Fs w A1 b1 off1 n1 K1 B1 L1 C1) := h1
  clear h h1
  go_enter Try.func4, Try.ntmps4
  go_wp2
  · go_ret
    exact ⟨IsBool.mk _, rfl⟩
  go_loop [9, 10] (fun s i => ∃ (k : Nat) (z : Int), k ≤ n ∧ i = .int .i64 k ∧ s = .int .i64 z) (fun _ i => n - (intOf i).toNat)
  case atStart => exact ⟨0, _, Nat.zero_le _, rfl, rfl⟩
  case round =>
    obtain ⟨k, z, hk, rfl, rfl⟩ := hrel
    by_cases hlt : k < n
    · have e := H.out.nil (by omega)
      subst e
      have hc := H.out.key k hlt
      have hv := H.out.val k hlt
      have i0 : (k : Int) < n := by omega
      go_wp2
      · go_ret
        exact ⟨IsBool.mk _, rfl⟩
      · go_ret
        exact ⟨IsBool.mk _, rfl⟩
      · go_ret
        exact ⟨IsBool.mk _, rfl⟩
      · go_ret
        exact ⟨IsBool.mk _, rfl⟩
      · go_round
        case rel => exact ⟨k + 1, _, by omega, by go_num, rfl⟩
        case measure => simp [intOf]; omega
    · go_wp2
      · go_ret
        exact ⟨IsBool.mk _, rfl⟩
      · go_ret
        exact ⟨IsBool.mk _, rfl⟩
      go_loop [9, 11] (fun s i => ∃ (k : Nat) (z : Int), k ≤ n1 ∧ i = .int .i64 k ∧ s = .int .i64 z) (fun _ i => n1 - (intOf i).toNat)
      case atStart => exact ⟨0, _, Nat.zero_le _, rfl, rfl⟩
      case round =>
        obtain ⟨k1, z1, hk1, rfl, rfl⟩ := hrel
        by_cases hlt1 : k1 < n1
        · have e := H1.out.nil (by omega)
          subst e
          have hc := H1.out.key k1 hlt1
          have hv := H1.out.val k1 hlt1
          have i0 : (k1 : Int) < n1 := by omega
          go_wp2
          · go_ret
            exact ⟨IsBool.mk _, rfl⟩
          · go_ret
            exact ⟨IsBool.mk _, rfl⟩
          · go_ret
            exact ⟨IsBool.mk _, rfl⟩
          · go_ret
            exact ⟨IsBool.mk _, rfl⟩
          · go_round
            case rel => exact ⟨k1 + 1, _, by omega, by go_num, rfl⟩
            case measure => simp [intOf]; omega
        · go_wp2
          all_goals
            go_ret
            exact ⟨IsBool.mk _, rfl⟩
end Go.Proofs.Qxb6628367a
