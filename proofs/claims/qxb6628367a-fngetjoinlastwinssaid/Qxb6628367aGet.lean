import Derived.Test.Qxb6628367aRows
import Derived.Test.Qxb6628367aMem
import Derived.WalkSpells
import Derived.Deep.LoopGhost
import Derived.Deep.QuietTactic
import Derived.BigQuiet
namespace Go.Proofs.Qxb6628367a
open Go.RowKit Go.Deep

/-- The last index below m at which the key stands. -/
def find (K : Nat → ByteArray) (key : ByteArray) : Nat → Option Nat
  | 0 => none
  | m + 1 => if (K m).toList == key.toList then some m else find K key m

theorem find_hit (K : Nat → ByteArray) (key : ByteArray) (m : Nat) (h : ((K m).toList == key.toList) = true) : find K key (m + 1) = some m := by simp only [find, h, if_true]
theorem find_miss (K : Nat → ByteArray) (key : ByteArray) (m : Nat) (h : ((K m).toList == key.toList) = false) : find K key (m + 1) = find K key m := by simp [find, h]

/-- What Get answers. -/
def got (A : Nat → Option Addr) (L C : Nat → Nat) : Option Nat → Value
  | none => .slice none 0 0
  | some i => .slice (A i) (L i) (C i)

set_option maxHeartbeats 1600000 in
theorem get_any (A0 : Option Addr) (b off n c : Nat) (K : Nat → ByteArray) (A : Nat → Option Addr) (L C : Nat → Nat) (key : ByteArray) (w : World) (hn : n ≤ 9223372036854775807) (h : Fs w A0 b off n K A L C) :
    Calls Try.prog 7 #[.slice A0 n c, .string key] w fun e w' => e = .returned (.tuple #[got A L C (find K key n), .bool (find K key n).isSome]) ∧ w' = w := by
  have H : Hid (Fs w A0 b off n K A L C) := h
  clear h
  go_enter Try.func7, Try.ntmps7
  go_wp2
  go_loopg [6] n (fun gk i wr => ∃ k : Nat, k ≤ n ∧ gk = k ∧ i = .int .i64 ((k : Int) - 1) ∧ find K key n = find K key k ∧ wr = w)
  case atStart => exact ⟨n, Nat.le_refl _, rfl, by go_num, rfl, rfl⟩
  case round =>
    obtain ⟨k, hk, rfl, rfl, hfd, rfl⟩ := hrel
    cases gk with
    | zero =>
      have HF : Hid (find K key n = none) := hfd
      clear hfd
      go_wp2
      go_ret2
      rw [HF.out]
      exact ⟨rfl, rfl⟩
    | succ m =>
      have e := H.out.nil (by omega)
      subst e
      have hc := H.out.key m (by omega)
      have hv := H.out.val m (by omega)
      have i0 : (m : Int) < n := by omega
      have HF : Hid (find K key n = find K key (m + 1)) := hfd
      clear hfd
      by_cases hq : ((K m).toList == key.toList) = true
      · go_wp2
        go_ret2
        rw [HF.out, find_hit K key m hq]
        exact ⟨rfl, rfl⟩
      · have hq' : ((K m).toList == key.toList) = false := by simpa using hq
        have HQ : Hid (((K m).toList == key.toList) = false) := hq'
        clear hq
        go_wp2
        go_roundg m
        case measure => omega
        case rel => exact ⟨m, by omega, rfl, rfl, by rw [HF.out, find_miss K key m HQ.out], rfl⟩

/-- zzSameB1 over one and the same slice, whatever lies in it. -/
structure Bytes (w : World) (A : Option Addr) (L C : Nat) (b off : Nat) (Z : Nat → Int) : Prop where
  adr : 0 < L → A = some ⟨b, off, none⟩
  cell : ∀ i, i < L → w.cell? ⟨b, off + i, none⟩ = some (.int .u8 (Z i))

set_option maxHeartbeats 1600000 in
theorem same_any (A : Option Addr) (L C b off : Nat) (Z : Nat → Int) (r : Bool) (w : World) (hL : L ≤ 9223372036854775807) (h : Bytes w A L C b off Z) :
    Calls Try.prog 8 #[.slice A L C, .bool r, .slice A L C, .bool r] w fun e w' => e = .returned (.bool true) ∧ ∃ q, w' = w.drewN q := by
  have H : Hid (Bytes w A L C b off Z) := h
  clear h
  go_enter Try.func8, Try.ntmps8
  go_wp2
  go_loopg [9] L (fun gk i wr => ∃ k q : Nat, k ≤ L ∧ gk = L - k ∧ i = .int .i64 k ∧ wr = w.drewN q)
  case atStart => exact ⟨0, 0, Nat.zero_le _, rfl, rfl, rfl⟩
  case round =>
    obtain ⟨k, q, hk, rfl, rfl, rfl⟩ := hrel
    by_cases hlt : k < L
    · have e := H.out.adr (by omega)
      subst e
      have hc := H.out.cell k hlt
      have i0 : (k : Int) < L := by omega
      go_wp2
      go_quiet (fail)
      go_wp2
      go_roundg (L - (k + 1))
      case measure => omega
      case rel => exact ⟨k + 1, _, by omega, rfl, by go_num, rfl⟩
    · go_wp2
      go_ret
      exact ⟨rfl, q, rfl⟩
end Go.Proofs.Qxb6628367a
