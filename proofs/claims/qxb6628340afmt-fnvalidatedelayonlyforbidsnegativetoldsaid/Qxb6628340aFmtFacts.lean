import Derived.Test.Qxb6628340aFmtRows
import Derived.WalkKit
import Derived.WalkSpells
import Derived.WalkLawsBesides
import Derived.Stop.CallBack
import Derived.Stop.IfaceNil
namespace Go.Proofs.Qxb6628340aFmt
open Go.RowKit Go.Extern.Stop Go.Stop Go.Extern

theorem call12 (args : Array Value) (w : World) : (callFunc 12 args).run Tryf.prog w = ((FmtStop.errorf #[9, 36] #[29] args).run Tryf.prog w).andThen fun v w' => .ok (.value v) w' :=
  run_callFunc_extern Tryf.func12 (by kernel_rfl) (by kernel_rfl) (by kernel_rfl) (by kernel_rfl) args w
theorem guardF (name : String) (w : World) : (FmtStop.guard name).run Tryf.prog w = .ok () w := by kernel_rfl
theorem fmt0 : FmtStop.printed? ⟨#[115, 116, 97, 116, 117, 115, 32, 37, 100, 32, 105, 115, 32, 110, 111, 116, 32, 98, 101, 116, 119, 101, 101, 110, 32, 50, 48, 48, 32, 97, 110, 100, 32, 53, 57, 57]⟩ 1 = some [(0, 100, false)] := by kernel_rfl
theorem fmt0r (w : World) : (FmtDoors.printed ⟨#[115, 116, 97, 116, 117, 115, 32, 37, 100, 32, 105, 115, 32, 110, 111, 116, 32, 98, 101, 116, 119, 101, 101, 110, 32, 50, 48, 48, 32, 97, 110, 100, 32, 53, 57, 57]⟩ 1).run Tryf.prog w = .ok [(0, 100, false)] w := by kernel_rfl
def shape3 : List UInt8 := [5, 3, 0, 0, 0, 0, 0, 0, 0, 105, 110, 116]
theorem op3_100 (name : String) (x : Int) (w : World) : (FmtStop.operand name false 100 false (.iface 3 (.int .i64 x))).run Tryf.prog w = .ok (shape3, Go.Extern.Stop.digits 8 (x % 2 ^ 64).toNat) w := by kernel_rfl
theorem op3_100w (name : String) (x : Int) (w : World) : (FmtStop.operand name true 100 false (.iface 3 (.int .i64 x))).run Tryf.prog w = .ok (shape3, Go.Extern.Stop.digits 8 (x % 2 ^ 64).toNat) w := by kernel_rfl
theorem strict3 (name : String) (x : Int) (w : World) : (FmtStop.strict name (.iface 3 (.int .i64 x))).run Tryf.prog w = .ok (shape3, Go.Extern.Stop.digits 8 (x % 2 ^ 64).toNat) w := by kernel_rfl
theorem ptr33 (w : World) : (FmtStop.ptrTo "errors.errorString").run Tryf.prog w = .ok 33 w := by kernel_rfl
theorem elem33 (w : World) : (elemOf 33).run Tryf.prog w = .ok 35 w := by kernel_rfl

attribute [local go_sem] call12 guardF fmt0 fmt0r op3_100 op3_100w strict3 ptr33 elem33

/-- An error of errors.New's or fmt.Errorf's make. -/
def IsErr (e : Ending) : Prop := ∃ a, e = .returned (.iface 33 (.pointer (some a)))
theorem IsErr.mk (a : Addr) : IsErr (.returned (.iface 33 (.pointer (some a)))) := ⟨a, rfl⟩

/-- What Validate accepts: c: there is a content; be: the body is empty. -/
def okB (c : Bool) (st : Int) (be : Bool) (dl : Int) : Bool :=
  !(c && !(st == 0)) && !(!c && (st == 0)) && !(!(st == 0) && (decide (st < 200) || decide (599 < st))) && !(c && !be) && !decide (dl < 0)

set_option maxHeartbeats 400000 in
theorem v_range (F : Interp) (st dl : Int) (body : ByteArray) (w : World) (hF : F.answers w.tape) (h0 : (st == 0) = false) (h1 : st < 200 ∨ 599 < st) :
    Calls Tryf.prog 9 #[.agg #[.pointer none, .int .i64 st, .string body, .int .i64 dl]] w fun e w' => IsErr e ∧ Below w.heap.size w w' := by
  have hF' := answers_open hF
  have h0' : (st != 0) = true := by simp only [bne, h0]; rfl
  rcases h1 with h1 | h1
  · go_enter Tryf.func9, Tryf.ntmps9
    go_wp2
    go_ret
    exact ⟨IsErr.mk _, (((Below.refl _ _).alloc (Nat.le_refl _) _).alloc (by simp) _).alloc (by simp; omega) _ |>.drew⟩
  · have h2 : ¬ st < 200 := by omega
    go_enter Tryf.func9, Tryf.ntmps9
    go_wp2
    go_ret
    exact ⟨IsErr.mk _, (((Below.refl _ _).alloc (Nat.le_refl _) _).alloc (by simp) _).alloc (by simp; omega) _ |>.drew⟩

set_option maxHeartbeats 400000 in
theorem v_both (a : Addr) (st dl : Int) (body : ByteArray) (w : World) (h0 : (st == 0) = false) :
    Calls Tryf.prog 9 #[.agg #[.pointer (some a), .int .i64 st, .string body, .int .i64 dl]] w fun e w' => IsErr e ∧ Below w.heap.size w w' := by
  have h0' : (st != 0) = true := by simp only [bne, h0]; rfl
  go_enter Tryf.func9, Tryf.ntmps9
  go_wp2
  go_ret
  exact ⟨IsErr.mk _, ((Below.refl _ _).alloc (Nat.le_refl _) _).alloc (by simp) _⟩

set_option maxHeartbeats 400000 in
theorem v_neither (dl : Int) (body : ByteArray) (w : World) :
    Calls Tryf.prog 9 #[.agg #[.pointer none, .int .i64 0, .string body, .int .i64 dl]] w fun e w' => IsErr e ∧ Below w.heap.size w w' := by
  go_enter Tryf.func9, Tryf.ntmps9
  go_wp2
  go_ret
  exact ⟨IsErr.mk _, ((Below.refl _ _).alloc (Nat.le_refl _) _).alloc (by simp) _⟩

set_option maxHeartbeats 400000 in
theorem v_body (a : Addr) (dl : Int) (body : ByteArray) (w : World) (hb : body.toList.isEmpty = false) :
    Calls Tryf.prog 9 #[.agg #[.pointer (some a), .int .i64 0, .string body, .int .i64 dl]] w fun e w' => IsErr e ∧ Below w.heap.size w w' := by
  go_enter Tryf.func9, Tryf.ntmps9
  go_wp2
  go_ret
  exact ⟨IsErr.mk _, ((Below.refl _ _).alloc (Nat.le_refl _) _).alloc (by simp) _⟩

set_option maxHeartbeats 400000 in
theorem v_content_neg (a : Addr) (dl : Int) (body : ByteArray) (w : World) (hb : body.toList.isEmpty = true) (hd : dl < 0) :
    Calls Tryf.prog 9 #[.agg #[.pointer (some a), .int .i64 0, .string body, .int .i64 dl]] w fun e w' => IsErr e ∧ Below w.heap.size w w' := by
  go_enter Tryf.func9, Tryf.ntmps9
  go_wp2
  go_ret
  exact ⟨IsErr.mk _, ((Below.refl _ _).alloc (Nat.le_refl _) _).alloc (by simp) _⟩

set_option maxHeartbeats 400000 in
theorem v_content_ok (a : Addr) (dl : Int) (body : ByteArray) (w : World) (hb : body.toList.isEmpty = true) (hd : ¬ dl < 0) :
    Calls Tryf.prog 9 #[.agg #[.pointer (some a), .int .i64 0, .string body, .int .i64 dl]] w fun e w' => e = .returned .nilIface ∧ Below w.heap.size w w' := by
  go_enter Tryf.func9, Tryf.ntmps9
  go_wp2
  go_ret
  exact ⟨rfl, (Below.refl _ _).alloc (Nat.le_refl _) _⟩

set_option maxHeartbeats 400000 in
theorem v_status_neg (st dl : Int) (body : ByteArray) (w : World) (h0 : (st == 0) = false) (h1 : ¬ st < 200) (h2 : ¬ 599 < st) (hd : dl < 0) :
    Calls Tryf.prog 9 #[.agg #[.pointer none, .int .i64 st, .string body, .int .i64 dl]] w fun e w' => IsErr e ∧ Below w.heap.size w w' := by
  have h0' : (st != 0) = true := by simp only [bne, h0]; rfl
  go_enter Tryf.func9, Tryf.ntmps9
  go_wp2
  go_ret
  exact ⟨IsErr.mk _, ((Below.refl _ _).alloc (Nat.le_refl _) _).alloc (by simp) _⟩

set_option maxHeartbeats 400000 in
theorem v_status_ok (st dl : Int) (body : ByteArray) (w : World) (h0 : (st == 0) = false) (h1 : ¬ st < 200) (h2 : ¬ 599 < st) (hd : ¬ dl < 0) :
    Calls Tryf.prog 9 #[.agg #[.pointer none, .int .i64 st, .string body, .int .i64 dl]] w fun e w' => e = .returned .nilIface ∧ Below w.heap.size w w' := by
  have h0' : (st != 0) = true := by simp only [bne, h0]; rfl
  go_enter Tryf.func9, Tryf.ntmps9
  go_wp2
  go_ret
  exact ⟨rfl, (Below.refl _ _).alloc (Nat.le_refl _) _⟩
end Go.Proofs.Qxb6628340aFmt
