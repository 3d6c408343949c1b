import Derived.Test.Qxb6628367aWalk
import Derived.Deep.SlicePairs
import Derived.ProofKit
import Derived.OpenShut
import Derived.ShutString
import Derived.ChangeOld
import Derived.Below
namespace Go.Proofs.Qxb6628367a
open Go.ChangeShapes Go.WideShapes Go.ChangeAt Go.RowKit Go.Deep
open Go.ChangeMaps (open_string shut_string)
set_option linter.unusedVariables false

theorem own : ownKnob Try.prog.godebug = none := by kernel_rfl
theorem laidOut : laidOutB Try.prog = true := by kernel_rfl
theorem cells36 : Try.prog.cellsOf 36 = 2 := by kernel_rfl
theorem cells9 : Try.prog.cellsOf 9 = 1 := by kernel_rfl
theorem cells23 : Try.prog.cellsOf 23 = 1 := by kernel_rfl
theorem cells5 : Try.prog.cellsOf 5 = 1 := by kernel_rfl

theorem addr_of {w : World} {a : Addr} {i : Nat} {v : Value} (h0 : ∃ u, w.cell? (a.add 0) = some u) (h : w.cell? (a.add i) = some v) : a = ⟨a.block, a.off, none⟩ ∧ w.cell? ⟨a.block, a.off + i, none⟩ = some v := by
  obtain ⟨u, h0⟩ := h0
  obtain ⟨b, o, s⟩ := a
  have hs : s = none := by simpa [Addr.add] using World.cell?_spot h0
  subst hs
  exact ⟨rfl, by rw [← add_plain]; exact h⟩

/-- A slice of bytes out of its reading. -/
theorem bytes_of {H : Type} {enc : TypeId × Value → H} {W : World} {fuel : Nat} {v : Value} {x : DataW H × List MemPlace}
    (h : DataW.trod enc Try.prog W 0 (fun _ => true) true fuel 23 [v] = some x) : ∃ A L C, v = .slice A L C ∧ L ≤ 9223372036854775807 ∧ ∃ b off Z, Bytes W A L C b off Z := by
  rcases open_ints Try.underlying23 Try.underlying5 cells5 h with ⟨hcs, _⟩ | ⟨a, l, c, zs, hcs, _, hl, hm, hz, _, hcell, _⟩
  · injection hcs with hcs _
    exact ⟨none, 0, 0, hcs, by omega, 0, 0, fun _ => 0, fun h => by omega, fun i h => by omega⟩
  · injection hcs with hcs _
    unfold maxLen at hm
    simp only [if_true] at hz
    refine ⟨some a, l, c, hcs, by omega, a.block, a.off, fun i => zs.getD i 0, fun h => ?_, fun i hi => ?_⟩
    · rw [← (addr_of ⟨_, hcell 0 (by omega)⟩ (hcell 0 (by omega))).1]
    · exact (addr_of ⟨_, hcell 0 (by omega)⟩ (hcell i (by omega))).2

/-- A list of fields out of its reading. -/
theorem fields_of {H : Type} {enc : TypeId × Value → H} {W : World} {a0 : Option Addr} {len cap : Nat} {d : DataW H} {p : List MemPlace}
    (h : DataW.Trod enc Try.prog W 0 (fun _ => true) true 22 (.slice a0 len cap) d p) : len ≤ 9223372036854775807 ∧ ∃ b off K A L C, Fs W a0 b off len K A L C ∧ Vals W len A L C := by
  obtain ⟨fuel, hf⟩ := h
  rcases open_slice_pairs Try.underlying22 Try.underlying36 cells36 rfl rfl cells9 cells23 hf with ⟨hcs, _⟩ | ⟨a, l, c, m, k, V0, V1, D0, D1, P0, P1, hcs, _, hl, hm, hmm, _, hx⟩
  · simp [Value.cells] at hcs
    obtain ⟨rfl, rfl, rfl⟩ := hcs
    exact ⟨by omega, 0, 0, fun _ => ⟨#[]⟩, fun _ => none, fun _ => 0, fun _ => 0, ⟨fun h => by omega, fun r hr => by omega, fun r hr => by omega⟩, fun r hr => by omega⟩
  · simp [Value.cells] at hcs
    obtain ⟨rfl, rfl, rfl⟩ := hcs
    simp only [if_true] at hmm
    subst hmm
    unfold maxLen at hm
    have each : ∀ r, r < len → ∃ y : ByteArray × Option Addr × Nat × Nat, V0 r = .string y.1 ∧ V1 r = .slice y.2.1 y.2.2.1 y.2.2.2 ∧ y.2.2.1 ≤ 9223372036854775807 ∧ ∃ b off Z, Bytes W y.2.1 y.2.2.1 y.2.2.2 b off Z := fun r hr => by
      obtain ⟨_, _, h3, h4⟩ := hx r (by omega)
      obtain ⟨s, hs, _⟩ := DataW.trod_string Try.underlying9 h3
      obtain ⟨A, L, C, hv, hL, hb⟩ := bytes_of h4
      injection hs with hs _
      exact ⟨(s, A, L, C), hs, hv, hL, hb⟩
    obtain ⟨y, hy⟩ := choose_lt each
    have top : ∀ r, r < len → a = ⟨a.block, a.off, none⟩ ∧ W.cell? ⟨a.block, a.off + r * 2, none⟩ = some (V0 r) ∧ W.cell? ⟨a.block, a.off + r * 2 + 1, none⟩ = some (V1 r) := fun r hr => by
      have z : ∃ u, W.cell? (a.add 0) = some u := ⟨_, (hx 0 (by omega)).1⟩
      exact ⟨(addr_of z (hx r (by omega)).1).1, (addr_of z (hx r (by omega)).1).2, by rw [Nat.add_assoc]; exact (addr_of z (hx r (by omega)).2.1).2⟩
    refine ⟨by omega, a.block, a.off, fun r => (y r).1, fun r => (y r).2.1, fun r => (y r).2.2.1, fun r => (y r).2.2.2, ⟨fun h => by rw [← (top 0 h).1], fun r hr => ?_, fun r hr => ?_⟩, fun r hr => ⟨(hy r hr).2.2.1, (hy r hr).2.2.2⟩⟩
    · rw [(top r hr).2.1, (hy r hr).1]
    · rw [(top r hr).2.2, (hy r hr).2.1]
end Go.Proofs.Qxb6628367a
