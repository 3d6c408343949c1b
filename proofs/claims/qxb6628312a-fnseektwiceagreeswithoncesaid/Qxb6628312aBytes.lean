import Derived.Test.Qxb6628312aRows
import Derived.Test.Qxb6628312aMem
import Derived.WalkKit
import Derived.WalkSpells
import Derived.Deep.OwnRows
import Derived.Deep.QuietTactic
import Derived.BigQuiet
namespace Go.Proofs.Qxb6628312a
open Go.RowKit Go.Deep

/-- It said no; or it said yes, and the lengths are small. -/
def Small (e : Ending) (n : Nat) (L : Nat → Nat) : Prop := e = .returned (.bool false) ∨ (e = .returned (.bool true) ∧ n + psum L n ≤ 1048576)

set_option maxHeartbeats 400000 in
/-- zzBytes (the first law's): it answers some bool and turns nothing. -/
theorem bytes_any (A0 : Option Addr) (b off n c : Nat) (A : Nat → Option Addr) (L C : Nat → Nat) (lg : Bool) (x1 x2 x3 : Int) (w : World) (hn : n ≤ 9223372036854775807)
    (hA0 : 0 < n → A0 = some ⟨b, off, none⟩) (hrow : ∀ r, r < n → w.cell? ⟨b, off + r, none⟩ = some (.slice (A r) (L r) (C r))) :
    Calls Try.prog 5 #[.slice A0 n c, .bool lg, .int .i64 x1, .int .i64 x2, .int .i64 x3] w fun e w' => Small e n L ∧ w' = w := by
  go_enter Try.func5, Try.ntmps5
  go_wp2
  · go_ret
    exact ⟨Or.inl rfl, rfl⟩
  go_loop [11, 12] (fun s i => ∃ k : Nat, k ≤ n ∧ i = .int .i64 k ∧ n + psum L k ≤ 1048576 ∧ s = .int .i64 (n + psum L k : Nat)) (fun _ i => n - (intOf i).toNat)
  case atStart => exact ⟨0, Nat.zero_le _, rfl, by simp only [psum]; omega, rfl⟩
  case round =>
    obtain ⟨k, hk, rfl, hz, rfl⟩ := hrel
    by_cases hlt : k < n
    · have e := hA0 (by omega)
      subst e
      have hc := hrow k hlt
      clear hA0 hrow
      go_wp2
      · go_ret
        exact ⟨Or.inl rfl, rfl⟩
      · go_ret
        exact ⟨Or.inl rfl, rfl⟩
      · go_round
        case rel => exact ⟨k + 1, by omega, by go_num, by rw [psum_succ]; omega, by rw [psum_succ]; go_num⟩
        case measure => simp [intOf]; omega
    · clear hA0 hrow
      obtain rfl : k = n := by omega
      go_wp2
      go_ret
      exact ⟨Or.inr ⟨rfl, hz⟩, rfl⟩


set_option maxHeartbeats 400000 in
/-- zzBytes (the second law's): it answers some bool and turns nothing. -/
theorem bytes2_any (A0 : Option Addr) (b off n c : Nat) (A : Nat → Option Addr) (L C : Nat → Nat) (lg : Bool) (x1 x2 x3 x4 x5 x6 : Int) (w : World) (hn : n ≤ 9223372036854775807)
    (hA0 : 0 < n → A0 = some ⟨b, off, none⟩) (hrow : ∀ r, r < n → w.cell? ⟨b, off + r, none⟩ = some (.slice (A r) (L r) (C r))) :
    Calls Try.prog 11 #[.slice A0 n c, .bool lg, .int .i64 x1, .int .i64 x2, .int .i64 x3, .int .i64 x4, .int .i64 x5, .int .i64 x6] w fun e w' => Small e n L ∧ w' = w := by
  go_enter Try.func11, Try.ntmps11
  go_wp2
  · go_ret
    exact ⟨Or.inl rfl, rfl⟩
  go_loop [17, 18] (fun s i => ∃ k : Nat, k ≤ n ∧ i = .int .i64 k ∧ n + psum L k ≤ 1048576 ∧ s = .int .i64 (n + psum L k : Nat)) (fun _ i => n - (intOf i).toNat)
  case atStart => exact ⟨0, Nat.zero_le _, rfl, by simp only [psum]; omega, rfl⟩
  case round =>
    obtain ⟨k, hk, rfl, hz, rfl⟩ := hrel
    by_cases hlt : k < n
    · have e := hA0 (by omega)
      subst e
      have hc := hrow k hlt
      clear hA0 hrow
      go_wp2
      · go_ret
        exact ⟨Or.inl rfl, rfl⟩
      · go_ret
        exact ⟨Or.inl rfl, rfl⟩
      · go_round
        case rel => exact ⟨k + 1, by omega, by go_num, by rw [psum_succ]; omega, by rw [psum_succ]; go_num⟩
        case measure => simp [intOf]; omega
    · clear hA0 hrow
      obtain rfl : k = n := by omega
      go_wp2
      go_ret
      exact ⟨Or.inr ⟨rfl, hz⟩, rfl⟩


end Go.Proofs.Qxb6628312a
