import Derived.WalkKit
import Derived.Deep.OwnRows
import Derived.Deep.Draws
import Derived.Lib.LazyBuf
namespace Go.Proofs.Qxb6628367a
open Go.RowKit Go.Deep

/-- A list of fields as it lies in memory: n fields, two cells each: the key K r, the value's slice. -/
structure Fs (w : World) (A0 : Option Addr) (b off n : Nat) (K : Nat → ByteArray) (A : Nat → Option Addr) (L C : Nat → Nat) : Prop where
  nil : 0 < n → A0 = some ⟨b, off, none⟩
  key : ∀ r, r < n → w.cell? ⟨b, off + r * 2, none⟩ = some (.string (K r))
  val : ∀ r, r < n → w.cell? ⟨b, off + r * 2 + 1, none⟩ = some (.slice (A r) (L r) (C r))

theorem Fs.below {w w' : World} {A0 : Option Addr} {b off n : Nat} {K : Nat → ByteArray} {A : Nat → Option Addr} {L C : Nat → Nat} (h : Fs w A0 b off n K A L C) (hb : Below w.heap.size w w') : Fs w' A0 b off n K A L C :=
  ⟨h.nil, fun r hr => (hb.cell (p := ⟨b, off + r * 2, none⟩) (World.block_lt_of_cell? _ _ (h.key r hr))).trans (h.key r hr),
   fun r hr => (hb.cell (p := ⟨b, off + r * 2 + 1, none⟩) (World.block_lt_of_cell? _ _ (h.val r hr))).trans (h.val r hr)⟩
end Go.Proofs.Qxb6628367a
