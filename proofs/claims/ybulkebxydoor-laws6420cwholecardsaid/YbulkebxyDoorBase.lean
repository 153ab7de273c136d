import Derived.Test.YbulkebxyDoorRows
import Derived.Test.YbulkebxyDoorShelf
import Derived.WalkKit
import Derived.ProofKit
import Derived.Below
import Derived.Deep.MidRow
import Derived.Deep.DeepCutAuto
import Derived.Deep.QuietTactic
import Derived.BigQuiet
import Derived.WalkSpells
import Derived.Lib.SliceRun
import Derived.Deep.RegionHeld3
import Derived.Deep.RegionLaw
import Derived.Deep.Upon
namespace Go.Proofs.YbulkebxyDoor
open Go.ChangeShapes Go.WideShapes Go.ChangeAt Go.RowKit
set_option linter.unusedVariables false

/-- A text element: name, no attributes, no children, its text; in block b. -/
def Txt (w : World) (b : Nat) (loc txt : ByteArray) : Prop :=
  w.cell? ⟨b, 0, none⟩ = some (.string ⟨#[117, 114, 110, 58, 105, 101, 116, 102, 58, 112, 97, 114, 97, 109, 115, 58, 120, 109, 108, 58, 110, 115, 58, 115, 101, 99, 68, 78, 83, 45, 49, 46, 49]⟩) ∧ w.cell? ⟨b, 1, none⟩ = some (.string loc) ∧ w.cell? ⟨b, 2, none⟩ = some (.slice none 0 0) ∧ w.cell? ⟨b, 3, none⟩ = some (.slice none 0 0) ∧ w.cell? ⟨b, 4, none⟩ = some (.string txt)

theorem below_grow (w : World) (k : Nat) (os : Array Obj) : Below w.heap.size w (Go.Sort.grow (w.drewN k) os) := by
  refine ⟨rfl, rfl, rfl, ?_, fun i hi => ?_⟩
  · simp [Go.Sort.grow]
  · show (w.heap ++ os)[i]? = _
    rw [Array.getElem?_append_left hi]

/-- What 'strconv.Itoa' leaves. -/
def Said (s : ByteArray) (w : World) (e : Ending) (w' : World) : Prop := e = .returned (.string s) ∧ Below w.heap.size w w'

theorem itoa_any (n : Int) (w : World) (h0 : 0 ≤ n) (h1 : n ≤ 9223372036854775807) (htab : Lib.TabIs Ybad.prog w "internal/strconv.uint64pow10" .u64 Lib.pow10Tab) :
    Calls Ybad.prog 9 #[.int .i64 n] w (Said ⟨(Lib.decDigits n.toNat).toArray⟩ w) := by
  refine (Ybad.strconv_Itoa n (by omega) h1 w htab).mono ?_
  rintro e w' ⟨rfl, k, os, rfl⟩
  refine ⟨?_, below_grow w k os⟩
  unfold Lib.itoa
  rw [if_neg (by omega)]

/-- What 'NewText' leaves. -/
def Made (sp loc : ByteArray) (ch : Value) (txt : ByteArray) (w : World) (e : Ending) (w' : World) : Prop :=
  e = .returned (.pointer (some ⟨w.heap.size, 0, none⟩)) ∧ w' = w.alloc (.cells #[.string sp, .string loc, .slice none 0 0, ch, .string txt] 49)

theorem newText_any (sp loc txt : ByteArray) (w : World) : Calls Ybad.prog 8 #[.string sp, .string loc, .string txt] w (Made sp loc (.slice none 0 0) txt w) := by
  go_enter Ybad.func8, Ybad.ntmps8
  go_wp2
  go_ret
  exact ⟨rfl, rfl⟩

theorem new_any (sp loc : ByteArray) (a : Option Addr) (n c : Nat) (w : World) : Calls Ybad.prog 7 #[.string sp, .string loc, .slice a n c] w (Made sp loc (.slice a n c) ⟨#[]⟩ w) := by
  go_enter Ybad.func7, Ybad.ntmps7
  go_wp2
  go_ret
  exact ⟨rfl, rfl⟩

theorem q46 (w : World) (a : Option Addr) (n c n' c' : Nat) : (binOp .eql 46 (.slice a n c) (.slice none n' c')).run Ybad.prog w = .ok (.bool a.isNone) w := Lib.run_eql_slice_nil w _ _ a n c n' c' Ybad.underlying46
theorem p46 (w : World) (a : Option Addr) (n c n' c' : Nat) : (binOp .neq 46 (.slice a n c) (.slice none n' c')).run Ybad.prog w = .ok (.bool (!a.isNone)) w := run_neq_slice_nil_any w _ _ a n c n' c' Ybad.underlying46

set_option maxHeartbeats 400000 in
theorem ctext_any (b : Nat) (loc txt : ByteArray) (w : World) (h : Txt w b loc txt) : Calls Ybad.prog 5 #[.pointer (some ⟨b, 0, none⟩), .string loc, .string txt] w fun e w' => e = .returned (.bool true) ∧ w' = w := by
  obtain ⟨h0, h1, h2, h3, h4⟩ := h
  have hq := q46
  go_enter Ybad.func5, Ybad.ntmps5
  go_wp2
  go_ret
  exact ⟨by simp, rfl⟩
end Go.Proofs.YbulkebxyDoor
