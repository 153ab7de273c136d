/-
  The closed facts for the walk over fmt's calling stop at this program (after the kit's worked Derived/Test/PortFmt.lean, LevelsFmt.lean, turned to this dump's numbers), and fmt.Errorf, errors.New by their contracts. The text that fmt gives stays open here: the law looks at no text.
-/
import Derived.Test.YbulkebzoFmtRows
import Derived.Stop.CallBack
import Derived.Stop.IfaceNil
import GoSem.ClaimData
import Derived.WalkKit
import Derived.WalkSpells
import Derived.BigCall
namespace Go.Proofs.YbulkebzoFmt
open Go.RowKit Go.Extern.Stop Go.Stop Go.Extern
set_option maxRecDepth 100000
set_option linter.unusedVariables false
set_option linter.unusedSimpArgs false

@[go_sem] theorem Ybaf.call16 (args : Array Value) (w : World) : (callFunc 16 args).run Ybaf.prog w = (FmtCalls.errorf #[9, 62] #[25] args).run Ybaf.prog w :=
  run_callFunc_next Ybaf.func16 (by kernel_rfl) (by kernel_rfl) (by kernel_rfl) args w
@[go_sem] theorem Ybaf.guard (name : String) (w : World) : (FmtStop.guard name).run Ybaf.prog w = .ok () w := by kernel_rfl
theorem Ybaf.nextTurns : Extern.next FmtCalls.turnsRow = some (FmtCalls.begun #[] #[]) := by kernel_rfl
theorem Ybaf.nextReturned : Extern.next FmtCalls.returnedRow = some (FmtCalls.returned #[] #[]) := by kernel_rfl
@[go_sem] theorem Ybaf.fmtW1 : FmtStop.printed? ⟨#[114, 101, 97, 100, 105, 110, 103, 32, 116, 104, 101, 32, 101, 109, 101, 114, 103, 101, 110, 99, 121, 32, 107, 101, 121, 58, 32, 37, 119]⟩ 1 = some [(0, 119, false)] := by kernel_rfl
@[go_sem] theorem Ybaf.fmtW1r (w : World) : (FmtDoors.printed ⟨#[114, 101, 97, 100, 105, 110, 103, 32, 116, 104, 101, 32, 101, 109, 101, 114, 103, 101, 110, 99, 121, 32, 107, 101, 121, 58, 32, 37, 119]⟩ 1).run Ybaf.prog w = .ok [(0, 119, false)] w := by kernel_rfl
@[go_sem] theorem Ybaf.fmtW0 : FmtStop.printed? ⟨#[114, 101, 97, 100, 105, 110, 103, 32, 116, 104, 101, 32, 101, 109, 101, 114, 103, 101, 110, 99, 121, 32, 107, 101, 121, 58, 32, 37, 119]⟩ 0 = some [] := by kernel_rfl
@[go_sem] theorem Ybaf.fmtW0r (w : World) : (FmtDoors.printed ⟨#[114, 101, 97, 100, 105, 110, 103, 32, 116, 104, 101, 32, 101, 109, 101, 114, 103, 101, 110, 99, 121, 32, 107, 101, 121, 58, 32, 37, 119]⟩ 0).run Ybaf.prog w = .ok [] w := by kernel_rfl
@[go_sem] theorem Ybaf.fmtM2 : FmtStop.printed? ⟨#[101, 109, 101, 114, 103, 101, 110, 99, 121, 32, 107, 101, 121, 32, 104, 97, 115, 32, 109, 111, 114, 101, 32, 116, 104, 97, 110, 32, 37, 100, 32, 99, 104, 97, 114, 97, 99, 116, 101, 114, 115, 44, 32, 119, 97, 110, 116, 32, 37, 100, 32, 104, 101, 120, 32, 100, 105, 103, 105, 116, 115]⟩ 2 = some [(0, 100, false), (1, 100, false)] := by kernel_rfl
@[go_sem] theorem Ybaf.fmtM2r (w : World) : (FmtDoors.printed ⟨#[101, 109, 101, 114, 103, 101, 110, 99, 121, 32, 107, 101, 121, 32, 104, 97, 115, 32, 109, 111, 114, 101, 32, 116, 104, 97, 110, 32, 37, 100, 32, 99, 104, 97, 114, 97, 99, 116, 101, 114, 115, 44, 32, 119, 97, 110, 116, 32, 37, 100, 32, 104, 101, 120, 32, 100, 105, 103, 105, 116, 115]⟩ 2).run Ybaf.prog w = .ok [(0, 100, false), (1, 100, false)] w := by kernel_rfl
@[go_sem] theorem Ybaf.fmtM0 : FmtStop.printed? ⟨#[101, 109, 101, 114, 103, 101, 110, 99, 121, 32, 107, 101, 121, 32, 104, 97, 115, 32, 109, 111, 114, 101, 32, 116, 104, 97, 110, 32, 37, 100, 32, 99, 104, 97, 114, 97, 99, 116, 101, 114, 115, 44, 32, 119, 97, 110, 116, 32, 37, 100, 32, 104, 101, 120, 32, 100, 105, 103, 105, 116, 115]⟩ 0 = some [] := by kernel_rfl
@[go_sem] theorem Ybaf.fmtM0r (w : World) : (FmtDoors.printed ⟨#[101, 109, 101, 114, 103, 101, 110, 99, 121, 32, 107, 101, 121, 32, 104, 97, 115, 32, 109, 111, 114, 101, 32, 116, 104, 97, 110, 32, 37, 100, 32, 99, 104, 97, 114, 97, 99, 116, 101, 114, 115, 44, 32, 119, 97, 110, 116, 32, 37, 100, 32, 104, 101, 120, 32, 100, 105, 103, 105, 116, 115]⟩ 0).run Ybaf.prog w = .ok [] w := by kernel_rfl
@[go_sem] theorem Ybaf.fmtC2 : FmtStop.printed? ⟨#[101, 109, 101, 114, 103, 101, 110, 99, 121, 32, 107, 101, 121, 32, 104, 97, 115, 32, 37, 100, 32, 99, 104, 97, 114, 97, 99, 116, 101, 114, 115, 44, 32, 119, 97, 110, 116, 32, 37, 100, 32, 104, 101, 120, 32, 100, 105, 103, 105, 116, 115]⟩ 2 = some [(0, 100, false), (1, 100, false)] := by kernel_rfl
@[go_sem] theorem Ybaf.fmtC2r (w : World) : (FmtDoors.printed ⟨#[101, 109, 101, 114, 103, 101, 110, 99, 121, 32, 107, 101, 121, 32, 104, 97, 115, 32, 37, 100, 32, 99, 104, 97, 114, 97, 99, 116, 101, 114, 115, 44, 32, 119, 97, 110, 116, 32, 37, 100, 32, 104, 101, 120, 32, 100, 105, 103, 105, 116, 115]⟩ 2).run Ybaf.prog w = .ok [(0, 100, false), (1, 100, false)] w := by kernel_rfl
@[go_sem] theorem Ybaf.fmtC0 : FmtStop.printed? ⟨#[101, 109, 101, 114, 103, 101, 110, 99, 121, 32, 107, 101, 121, 32, 104, 97, 115, 32, 37, 100, 32, 99, 104, 97, 114, 97, 99, 116, 101, 114, 115, 44, 32, 119, 97, 110, 116, 32, 37, 100, 32, 104, 101, 120, 32, 100, 105, 103, 105, 116, 115]⟩ 0 = some [] := by kernel_rfl
@[go_sem] theorem Ybaf.fmtC0r (w : World) : (FmtDoors.printed ⟨#[101, 109, 101, 114, 103, 101, 110, 99, 121, 32, 107, 101, 121, 32, 104, 97, 115, 32, 37, 100, 32, 99, 104, 97, 114, 97, 99, 116, 101, 114, 115, 44, 32, 119, 97, 110, 116, 32, 37, 100, 32, 104, 101, 120, 32, 100, 105, 103, 105, 116, 115]⟩ 0).run Ybaf.prog w = .ok [] w := by kernel_rfl
def Ybaf.shape3 : List UInt8 := [5, 3, 0, 0, 0, 0, 0, 0, 0, 105, 110, 116]
@[go_sem] theorem Ybaf.act3_100w (name : String) (x : Value) (w : World) : (FmtCalls.act name true 100 false (.iface 3 x)).run Ybaf.prog w = .ok (.closed true) w := by kernel_rfl
@[go_sem] theorem Ybaf.op3_100w (name : String) (x : Int) (w : World) : (FmtStop.operand name true 100 false (.iface 3 (.int .i64 x))).run Ybaf.prog w = .ok (Ybaf.shape3, Go.Extern.Stop.digits 8 (x % 2 ^ 64).toNat) w := by kernel_rfl
@[go_sem] theorem Ybaf.str3 (w : World) : (typeStr 3).run Ybaf.prog w = .ok "int" w := by kernel_rfl
@[go_sem] theorem Ybaf.act39_119w (name : String) (x : Value) (w : World) : (FmtCalls.act name true 119 false (.iface 39 x)).run Ybaf.prog w = .ok (.closed true) w := by kernel_rfl
@[go_sem] theorem Ybaf.isError39 (w : World) : (FmtDoors.textMethod 39 "Error").run Ybaf.prog w = .ok true w := by kernel_rfl
@[go_sem] theorem Ybaf.str39 (w : World) : (typeStr 39).run Ybaf.prog w = .ok "*errors.errorString" w := by kernel_rfl
@[go_sem] theorem Ybaf.ptr39 (w : World) : (FmtStop.ptrTo "errors.errorString").run Ybaf.prog w = .ok 39 w := by kernel_rfl
@[go_sem] theorem Ybaf.elem39 (w : World) : (elemOf 39).run Ybaf.prog w = .ok 41 w := by kernel_rfl
def Ybaf.plain39 : List UInt8 := 14 :: FmtStop.pack "*errors.errorString".toUTF8.data.toList
theorem Ybaf.opPlain39_119w (name : String) (a : Addr) (s : ByteArray) (w : World) (hc : w.cell? a = some (.string s)) :
    (FmtStop.operand name true 119 false (.iface 39 (.pointer (some a)))).run Ybaf.prog w = .ok (Ybaf.plain39, s.data.toList) w := by
  have h1 : (typeStr 39).run Ybaf.prog w = .ok "*errors.errorString" w := by kernel_rfl
  have d2 : Ybaf.t39.desc = .pointer 41 := rfl
  have d3 : Ybaf.t41.desc = .named "errors.errorString" 40 := rfl
  simp [FmtStop.operand, h1, d2, d3, run_load, hc, Ybaf.plain39]
@[go_sem] theorem Ybaf.ptr63 (w : World) : (FmtStop.ptrTo "fmt.wrapError").run Ybaf.prog w = .ok 63 w := by kernel_rfl
@[go_sem] theorem Ybaf.elem63 (w : World) : (elemOf 63).run Ybaf.prog w = .ok 102 w := by kernel_rfl
@[go_sem] theorem Ybaf.isError63 (w : World) : (FmtDoors.textMethod 63 "Error").run Ybaf.prog w = .ok true w := by kernel_rfl

/-- errors.New: a new block with the text. -/
theorem errorsNew (s : ByteArray) (w : World) :
    Calls Ybaf.prog 4 #[.string s] w fun e w' => e = .returned (.iface 39 (.pointer (some ⟨w.heap.size, 0, none⟩))) ∧ w' = w.alloc (.cells #[.string s] 41) := by
  go_enter Ybaf.func4, Ybaf.ntmps4
  go_wp2
  go_ret
  exact ⟨rfl, rfl⟩

set_option maxHeartbeats 800000 in
/-- fmt.Errorf("reading the emergency key: %w", err), err of errors.New's make. -/
theorem errorf_w (F : Interp) (t : ByteArray) (blk : Nat) (a : Addr) (w : World) (hF : F.answers w.tape)
    (hc0 : w.cell? ⟨blk, 0, none⟩ = some (.iface 39 (.pointer (some a)))) (ha : w.cell? a = some (.string t)) :
    Calls Ybaf.prog 11 #[.string ⟨#[114, 101, 97, 100, 105, 110, 103, 32, 116, 104, 101, 32, 101, 109, 101, 114, 103, 101, 110, 99, 121, 32, 107, 101, 121, 58, 32, 37, 119]⟩, .slice (some ⟨blk, 0, none⟩) 1 1] w fun e w' =>
      ∃ x, e = .returned (.iface 63 (.pointer (some ⟨w.heap.size, 0, none⟩))) ∧ w' = (w.alloc (.cells #[.string x, .iface 39 (.pointer (some a))] 102)).drew := by
  have hF' := answers_open hF
  have hop := Ybaf.opPlain39_119w "fmt.errorf" a t w ha
  go_enter Ybaf.func11, Ybaf.ntmps11
  go_wp2
  apply rows_value Ybaf.nextTurns
  case hr =>
    go_simp
    exact ⟨rfl, rfl⟩
  case h =>
    go_wp2
    go_ret
    exact ⟨_, rfl, rfl⟩

set_option maxHeartbeats 800000 in
/-- fmt.Errorf with two ints, no %w: the format with 'more than'. -/
theorem errorf_m (F : Interp) (n m : Int) (blk : Nat) (w : World) (hF : F.answers w.tape)
    (hc0 : w.cell? ⟨blk, 0, none⟩ = some (.iface 3 (.int .i64 n))) (hc1 : w.cell? ⟨blk, 1, none⟩ = some (.iface 3 (.int .i64 m))) :
    Calls Ybaf.prog 11 #[.string ⟨#[101, 109, 101, 114, 103, 101, 110, 99, 121, 32, 107, 101, 121, 32, 104, 97, 115, 32, 109, 111, 114, 101, 32, 116, 104, 97, 110, 32, 37, 100, 32, 99, 104, 97, 114, 97, 99, 116, 101, 114, 115, 44, 32, 119, 97, 110, 116, 32, 37, 100, 32, 104, 101, 120, 32, 100, 105, 103, 105, 116, 115]⟩, .slice (some ⟨blk, 0, none⟩) 2 2] w fun e w' =>
      ∃ x, e = .returned (.iface 39 (.pointer (some ⟨w.heap.size, 0, none⟩))) ∧ w' = (w.alloc (.cells #[.string x] 41)).drew := by
  have hF' := answers_open hF
  go_enter Ybaf.func11, Ybaf.ntmps11
  go_wp2
  apply rows_value Ybaf.nextTurns
  case hr =>
    go_simp
    exact ⟨rfl, rfl⟩
  case h =>
    go_wp2
    go_ret
    exact ⟨_, rfl, rfl⟩

set_option maxHeartbeats 800000 in
/-- fmt.Errorf with two ints, no %w: the other format. -/
theorem errorf_c (F : Interp) (n m : Int) (blk : Nat) (w : World) (hF : F.answers w.tape)
    (hc0 : w.cell? ⟨blk, 0, none⟩ = some (.iface 3 (.int .i64 n))) (hc1 : w.cell? ⟨blk, 1, none⟩ = some (.iface 3 (.int .i64 m))) :
    Calls Ybaf.prog 11 #[.string ⟨#[101, 109, 101, 114, 103, 101, 110, 99, 121, 32, 107, 101, 121, 32, 104, 97, 115, 32, 37, 100, 32, 99, 104, 97, 114, 97, 99, 116, 101, 114, 115, 44, 32, 119, 97, 110, 116, 32, 37, 100, 32, 104, 101, 120, 32, 100, 105, 103, 105, 116, 115]⟩, .slice (some ⟨blk, 0, none⟩) 2 2] w fun e w' =>
      ∃ x, e = .returned (.iface 39 (.pointer (some ⟨w.heap.size, 0, none⟩))) ∧ w' = (w.alloc (.cells #[.string x] 41)).drew := by
  have hF' := answers_open hF
  go_enter Ybaf.func11, Ybaf.ntmps11
  go_wp2
  apply rows_value Ybaf.nextTurns
  case hr =>
    go_simp
    exact ⟨rfl, rfl⟩
  case h =>
    go_wp2
    go_ret
    exact ⟨_, rfl, rfl⟩

end Go.Proofs.YbulkebzoFmt
