import Derived.Test.Qxb6628312aUnits
import Derived.Deep.Matrix
import Derived.ProofKit
import Derived.OpenShut
import Derived.ShutString
import Derived.ChangeOld
import Derived.Below
namespace Go.Proofs.Qxb6628312a
open Go.ChangeShapes Go.WideShapes Go.ChangeAt Go.RowKit Go.Deep

theorem own : ownKnob Try.prog.godebug = none := by kernel_rfl
theorem laidOut : laidOutB Try.prog = true := by kernel_rfl
theorem cells24 : Try.prog.cellsOf 24 = 1 := by kernel_rfl
theorem cells5 : Try.prog.cellsOf 5 = 1 := by kernel_rfl

theorem addr_of {w : World} {a : Addr} {i : Nat} {v : Value} (h0 : ∃ u, w.cell? (a.add 0) = some u) (h : w.cell? (a.add i) = some v) : a = ⟨a.block, a.off, none⟩ ∧ w.cell? ⟨a.block, a.off + i, none⟩ = some v := by
  obtain ⟨u, h0⟩ := h0
  obtain ⟨b, o, s⟩ := a
  have hs : s = none := by simpa [Addr.add] using World.cell?_spot h0
  subst hs
  exact ⟨rfl, by rw [← add_plain]; exact h⟩

/-- A list of parts out of its reading. -/
theorem came_of {H : Type} {enc : TypeId × Value → H} {W : World} {a0 : Option Addr} {len cap : Nat} {d : DataW H} {p : List MemPlace}
    (h : DataW.Trod enc Try.prog W 0 (fun _ => true) true 22 (.slice a0 len cap) d p) : len ≤ 9223372036854775807 ∧ ∃ b off A L C Ab Ao X, Came W a0 b off len A L C Ab Ao X := by
  obtain ⟨fuel, hf⟩ := h
  rcases open_int_rows Try.underlying22 Try.underlying24 Try.underlying5 cells24 cells5 hf with ⟨hcs, _⟩ | ⟨a, l, c, A, L, C, Z, hcs, _, hl, hm, _, hrows⟩
  · simp [Value.cells] at hcs
    obtain ⟨rfl, rfl, rfl⟩ := hcs
    exact ⟨by omega, 0, 0, fun _ => none, fun _ => 0, fun _ => 0, fun _ => 0, fun _ => 0, fun _ => 0, fun h => by omega, fun r hr => by omega, fun r hr => by omega⟩
  · simp [Value.cells] at hcs
    obtain ⟨rfl, rfl, rfl⟩ := hcs
    unfold maxLen at hm
    have top : ∀ r, r < len → a = ⟨a.block, a.off, none⟩ ∧ W.cell? ⟨a.block, a.off + r, none⟩ = some (.slice (A r) (L r) (C r)) := fun r hr => addr_of ⟨_, (hrows 0 (by omega)).1⟩ (hrows r (by omega)).1
    refine ⟨by omega, a.block, a.off, A, L, C, fun r => ((A r).getD default).block, fun r => ((A r).getD default).off, txt L (fun r i => (Z r).getD i 0) len, fun h => by rw [← (top 0 h).1], fun r hr => (top r hr).2, fun r hr i hi => ?_⟩
    obtain ⟨_, r1, _, r3, _, r5, r6⟩ := hrows r (by omega)
    cases hA : A r with
    | none => have := r5 hA; omega
    | some a' =>
      obtain ⟨_, hc⟩ := r6 a' hA
      obtain ⟨e1, e2⟩ := addr_of ⟨_, hc 0 (by omega)⟩ (hc i (by omega))
      simp only [Option.getD_some]
      rw [txt_at L _ len r i hr hi]
      exact ⟨by rw [← e1], e2⟩
end Go.Proofs.Qxb6628312a
