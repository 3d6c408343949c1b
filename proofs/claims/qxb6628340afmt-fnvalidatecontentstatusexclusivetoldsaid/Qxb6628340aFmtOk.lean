import Derived.Test.Qxb6628340aFmtFacts
namespace Go.Proofs.Qxb6628340aFmt
open Go.RowKit Go.Extern.Stop Go.Stop Go.Extern

def VSaid (e : Ending) (b : Bool) : Prop := (b = true ∧ e = .returned .nilIface) ∨ (b = false ∧ IsErr e)

theorem okB_eq (c : Bool) (st : Int) (be : Bool) (dl : Int) : okB c st be dl = (!(c && !(st == 0)) && !(!c && (st == 0)) && !(!(st == 0) && (decide (st < 200) || decide (599 < st))) && !(c && !be) && !decide (dl < 0)) := rfl

theorem validate_any (F : Interp) (p : Option Addr) (st dl : Int) (body : ByteArray) (w : World) (hF : F.answers w.tape) :
    Calls Tryf.prog 9 #[.agg #[.pointer p, .int .i64 st, .string body, .int .i64 dl]] w fun e w' => VSaid e (okB p.isSome st body.toList.isEmpty dl) ∧ Below w.heap.size w w' := by
  have bad : okB p.isSome st body.toList.isEmpty dl = false → ∀ e w', IsErr e ∧ Below w.heap.size w w' → VSaid e (okB p.isSome st body.toList.isEmpty dl) ∧ Below w.heap.size w w' := fun h e w' q => ⟨Or.inr ⟨h, q.1⟩, q.2⟩
  have good : okB p.isSome st body.toList.isEmpty dl = true → ∀ (e : Ending) w', e = .returned .nilIface ∧ Below w.heap.size w w' → VSaid e (okB p.isSome st body.toList.isEmpty dl) ∧ Below w.heap.size w w' := fun h e w' q => ⟨Or.inl ⟨h, q.1⟩, q.2⟩
  rw [okB_eq] at bad good ⊢
  by_cases h00 : st = 0
  · subst h00
    cases p with
    | none => exact (v_neither dl body w).mono (bad (by simp))
    | some a =>
      by_cases hb : body.toList.isEmpty = true
      · by_cases hd : dl < 0
        · exact (v_content_neg a dl body w hb hd).mono (bad (by simp [hd]))
        · exact (v_content_ok a dl body w hb hd).mono (good (by simp [hd, hb]))
      · have hb' : body.toList.isEmpty = false := by simpa using hb
        exact (v_body a dl body w hb').mono (bad (by simp [hb']))
  · have h0 : (st == 0) = false := by simpa using h00
    cases p with
    | some a => exact (v_both a st dl body w h0).mono (bad (by simp [h00]))
    | none =>
      by_cases h1 : st < 200
      · exact (v_range F st dl body w hF h0 (Or.inl h1)).mono (bad (by simp [h1]))
      · by_cases h2 : 599 < st
        · exact (v_range F st dl body w hF h0 (Or.inr h2)).mono (bad (by simp [h2]))
        · by_cases hd : dl < 0
          · exact (v_status_neg st dl body w h0 h1 h2 hd).mono (bad (by simp [hd]))
          · exact (v_status_ok st dl body w h0 h1 h2 hd).mono (good (by simp [h00, h1, h2, hd]))

theorem errNil (w : World) (a : Addr) : (binOp .eql 29 (.iface 33 (.pointer (some a))) .nilIface).run Tryf.prog w = .ok (.bool false) w := by kernel_rfl
theorem nilNil (w : World) : (binOp .eql 29 .nilIface .nilIface).run Tryf.prog w = .ok (.bool true) w := by kernel_rfl

set_option maxHeartbeats 400000 in
theorem ok_any (F : Interp) (p : Option Addr) (st dl : Int) (body : ByteArray) (w : World) (hF : F.answers w.tape) :
    Calls Tryf.prog 7 #[.agg #[.pointer p, .int .i64 st, .string body, .int .i64 dl]] w fun e w' => e = .returned (.bool (okB p.isSome st body.toList.isEmpty dl)) ∧ Below w.heap.size w w' := by
  have he := errNil
  have hn := nilNil
  go_enter Tryf.func7, Tryf.ntmps7
  go_wp2_with fail
  refine (validate_any F p st dl body _ (by exact hF)).mono ?_
  rintro e w' ⟨hV, hb⟩
  have HB : Hid (Below w.heap.size w w') := ((Below.refl _ _).alloc (Nat.le_refl _) _).trans (hb.mono (by simp))
  clear hb hF
  rcases hV with ⟨h1, rfl⟩ | ⟨h1, a, rfl⟩
  · go_wp2
    go_ret
    exact ⟨by rw [h1]; rfl, HB.out⟩
  · go_wp2
    go_ret
    exact ⟨by rw [h1]; rfl, HB.out⟩

set_option maxHeartbeats 400000 in
theorem bytes_any (c b : ByteArray) (h : Bool) (st dl : Int) (w : World) (hc : c.size ≤ 9223372036854775807) (hb : b.size ≤ 9223372036854775807) :
    Calls Tryf.prog 5 #[.string c, .bool h, .int .i64 st, .string b, .int .i64 dl] w fun e w' => (∃ r : Bool, Hid (e = .returned (.bool r))) ∧ w' = w := by
  go_enter Tryf.func5, Tryf.ntmps5
  go_wp2
  all_goals
    go_ret
    exact ⟨⟨_, rfl⟩, rfl⟩

set_option maxHeartbeats 400000 in
theorem bytes2_any (c b : ByteArray) (h : Bool) (st dl : Int) (w : World) (hc : c.size ≤ 9223372036854775807) (hb : b.size ≤ 9223372036854775807) :
    Calls Tryf.prog 8 #[.string c, .bool h, .int .i64 st, .string b, .int .i64 dl] w fun e w' => (∃ r : Bool, Hid (e = .returned (.bool r))) ∧ w' = w := by
  go_enter Tryf.func8, Tryf.ntmps8
  go_wp2
  all_goals
    go_ret
    exact ⟨⟨_, rfl⟩, rfl⟩

/-- What zzBuild gives: a pointer to a new string where there is a content. -/
def Built (e : Ending) (h : Bool) (st dl : Int) (b : ByteArray) : Prop := ∃ p : Option Addr, p.isSome = h ∧ e = .returned (.agg #[.pointer p, .int .i64 st, .string b, .int .i64 dl])

set_option maxHeartbeats 400000 in
theorem build_any (c b : ByteArray) (h : Bool) (st dl : Int) (w : World) :
    Calls Tryf.prog 6 #[.string c, .bool h, .int .i64 st, .string b, .int .i64 dl] w fun e w' => Built e h st dl b ∧ Below w.heap.size w w' := by
  cases h with
  | true =>
    go_enter Tryf.func6, Tryf.ntmps6
    go_wp2
    exact bodyPost_ret (v := .agg #[.pointer (some ⟨w.heap.size + 1 + 1, 0, none⟩), .int .i64 st, .string b, .int .i64 dl]) (by simp [results, Tryf.results6, go_sem]) rfl ⟨⟨_, rfl, rfl⟩, (((Below.refl _ _).alloc (Nat.le_refl _) _).alloc (by simp) _).alloc (by simp; omega) _⟩
  | false =>
    go_enter Tryf.func6, Tryf.ntmps6
    go_wp2
    exact bodyPost_ret (v := .agg #[.pointer none, .int .i64 st, .string b, .int .i64 dl]) (by simp [results, Tryf.results6, go_sem]) rfl ⟨⟨none, rfl, rfl⟩, ((Below.refl _ _).alloc (Nat.le_refl _) _).alloc (by simp) _⟩

/-- Old cells and marks read as before. -/
theorem bcell {W w1 : World} (hb : Below W.heap.size W w1) : (∀ b o, b < W.heap.size → w1.cell? ⟨b, o, none⟩ = W.cell? ⟨b, o, none⟩) ∧ (∀ b o, b < W.heap.size → w1.frozen? ⟨b, o, none⟩ = W.frozen? ⟨b, o, none⟩) :=
  ⟨fun b o h => hb.cell (p := ⟨b, o, none⟩) h, fun b o h => hb.frozen (p := ⟨b, o, none⟩) h⟩

/-- An Answer in block B. -/
def Ans (w : World) (B : Nat) (p : Option Addr) (st dl : Int) (b : ByteArray) : Prop := w.heap[B]? = some (.cells #[.pointer p, .int .i64 st, .string b, .int .i64 dl] 25)
theorem Ans.new (w : World) (p : Option Addr) (st dl : Int) (b : ByteArray) : Ans (w.alloc (.cells #[.pointer p, .int .i64 st, .string b, .int .i64 dl] 25)) w.heap.size p st dl b := by
  show (w.heap.push _)[w.heap.size]? = _
  simp
theorem Ans.lt {w : World} {B : Nat} {p : Option Addr} {st dl : Int} {b : ByteArray} (h : Ans w B p st dl b) : B < w.heap.size := by
  obtain ⟨hlt, _⟩ := Array.getElem?_eq_some_iff.1 h
  exact hlt
theorem Ans.below {w w' : World} {B : Nat} {p : Option Addr} {st dl : Int} {b : ByteArray} (h : Ans w B p st dl b) (hb : Below w.heap.size w w') : Ans w' B p st dl b := (hb.block B h.lt).trans h
theorem Ans.alloc {w : World} {B : Nat} {p : Option Addr} {st dl : Int} {b : ByteArray} (h : Ans w B p st dl b) (o : Obj) : Ans (w.alloc o) B p st dl b := (Below.heap_alloc _ _ _ h.lt).trans h
theorem Ans.cells {w : World} {B : Nat} {p : Option Addr} {st dl : Int} {b : ByteArray} (h : Ans w B p st dl b) :
    w.cell? ⟨B, 0, none⟩ = some (.pointer p) ∧ w.cell? ⟨B, 1, none⟩ = some (.int .i64 st) ∧ w.cell? ⟨B, 2, none⟩ = some (.string b) ∧ w.cell? ⟨B, 3, none⟩ = some (.int .i64 dl) := by
  unfold Ans at h
  refine ⟨?_, ?_, ?_, ?_⟩ <;> simp [World.cell?, h]

/-- zzOK where the answer is known. -/
theorem ok_v (F : Interp) (p : Option Addr) (st dl : Int) (body : ByteArray) (w : World) (hF : F.answers w.tape) (r : Bool) (hr : okB p.isSome st body.toList.isEmpty dl = r) :
    Calls Tryf.prog 7 #[.agg #[.pointer p, .int .i64 st, .string body, .int .i64 dl]] w fun e w' => e = .returned (.bool r) ∧ Below w.heap.size w w' := by
  subst hr
  exact ok_any F p st dl body w hF
theorem okB_pos (c : Bool) (st : Int) (be : Bool) (dl : Int) (h : 0 ≤ dl) : okB c st be dl = okB c st be 0 := by
  have h1 : ¬ dl < 0 := by omega
  simp [okB, h1]
theorem okB_neg (c : Bool) (st : Int) (be : Bool) (dl : Int) (h : ¬ 0 ≤ dl) : okB c st be dl = false := by
  have h1 : dl < 0 := by omega
  simp [okB, h1]
theorem empty_is : (⟨#[]⟩ : ByteArray).toList.isEmpty = true := by decide +kernel
theorem okB_plain : okB true 0 (⟨#[]⟩ : ByteArray).toList.isEmpty 0 = true := by rw [empty_is]; rfl
theorem answers_below {F : Interp} {B : Nat} {w w' : World} (h : F.answers w.tape) (hb : Below B w w') : F.answers w'.tape := by rw [hb.tape]; exact h
end Go.Proofs.Qxb6628340aFmt
