/-
  The reader's state, and what of it the walks lean on.
-/
import Derived.Test.YbulkebzoFmtIs
import Derived.Test.YbulkebzoFmtErr
import Derived.Test.YbulkebzoFmtShelf
import Derived.WalkKit
import Derived.ProofKit
import Derived.Below
import Derived.WalkSpells
import Derived.BigQuiet
import Derived.Laws.CopyOwn
import Derived.Deep.DeepCutAuto
import Derived.Deep.RegionLaw
import Derived.Stop.BytesEq
namespace Go.Proofs.YbulkebzoFmt
open Go.ChangeShapes Go.WideShapes Go.ChangeAt Go.RowKit Go.Extern.Stop Go.Stop Go.Extern
set_option maxRecDepth 100000
set_option linter.unusedVariables false
set_option linter.unusedSimpArgs false

/-- The law's reader: what it never writes. -/
structure Rd where
  bd : Nat
  L : Nat
  cd : Nat
  ch : Nat
  fl : Bool
  fa : Nat
  fb : Nat
  xs : Nat → Int

def rcells (R : Rd) (pos : Nat) : Array Value :=
  #[.slice (some ⟨R.bd, 0, none⟩) R.L R.cd, .int .i64 pos, .int .i64 R.ch, .bool R.fl, .int .i64 R.fa, .iface 39 (.pointer (some ⟨R.fb, 0, none⟩))]

/-- What holds of the reader's fixed part in the world at which the reading begins. -/
structure RdOk (R : Rd) (w0 : World) (rb : Nat) (ae : Addr) : Prop where
  hbd : R.bd < rb
  hfb : R.fb < rb
  hae : ae.block < R.fb
  h2 : 2 ≤ R.fb
  hL : R.L ≤ 1000
  hL0 : R.L ≤ R.cd
  hcd : R.cd ≤ 1000
  hch0 : 1 ≤ R.ch
  hch : R.ch ≤ 8
  hfa : R.fa < 80
  hxs : ∀ i, i < R.L → 0 ≤ R.xs i ∧ R.xs i < 256
  data : ∀ i, i < R.L → w0.cell? ⟨R.bd, i, none⟩ = some (.int .u8 (R.xs i))
  fail : ∃ t, w0.heap[R.fb]? = some (.cells #[.string t] 41 (0, 0))
  eof : w0.cell? ⟨0, 0, none⟩ = some (.iface 39 (.pointer (some ae)))
  eofrow : ∃ cs t, w0.heap[ae.block]? = some (.cells cs t (0, 0))

structure St (R : Rd) (w0 : World) (rb lb g pos N : Nat) (buf : List Value) (w : World) : Prop where
  lt1 : rb < lb
  lt2 : lb < g
  below : Below rb w0 w
  r : w.heap[rb]? = some (.cells (rcells R pos) 29 (0, 0))
  l : w.heap[lb]? = some (.cells #[.iface 27 (.pointer (some ⟨rb, 0, none⟩)), .int .i64 N] 61 (0, 0))
  b : w.heap[g]? = some (.cells buf.toArray 5 (0, 0))
  o : ∀ k, rb < k → k < lb → w.heap[k]? = w0.heap[k]?

/-- A world that differs by draws alone. -/
theorem St.drewN {R : Rd} {w0 w : World} {rb lb g pos N : Nat} {buf : List Value} (h : St R w0 rb lb g pos N buf w) (q : Nat) : St R w0 rb lb g pos N buf (w.drewN q) :=
  ⟨h.lt1, h.lt2, h.below.trans ⟨rfl, rfl, rfl, Nat.le_refl _, fun _ _ => rfl⟩, h.r, h.l, h.b, h.o⟩

theorem cell_of_row {w : World} {b i : Nat} {cs : Array Value} {t : TypeId} {v : Value} (h : w.heap[b]? = some (.cells cs t (0, 0))) (hi : cs[i]? = some v) : w.cell? ⟨b, i, none⟩ = some v := by
  simp [World.cell?, h, hi]

theorem frozen_of_row {w : World} {b i : Nat} {cs : Array Value} {t : TypeId} (h : w.heap[b]? = some (.cells cs t (0, 0))) : w.frozen? ⟨b, i, none⟩ = false := by
  simp [World.frozen?, h]

/-- The bytes handed out by one Read. -/
def chunkOf (R : Rd) (pos m : Nat) : List Value := (List.range m).map fun j => .int .u8 (R.xs (pos + j))

theorem chunkOf_length (R : Rd) (pos m : Nat) : (chunkOf R pos m).length = m := by simp [chunkOf]
theorem chunkOf_get {R : Rd} {pos m j : Nat} {v : Value} (h : (chunkOf R pos m)[j]? = some v) : j < m ∧ v = .int .u8 (R.xs (pos + j)) := by
  unfold chunkOf at h
  rw [List.getElem?_map, Option.map_eq_some_iff] at h
  obtain ⟨i, hi, rfl⟩ := h
  obtain ⟨h1, h2⟩ := List.getElem?_eq_some_iff.1 hi
  simp at h1 h2
  subst h2
  exact ⟨h1, rfl⟩

/-- zzs6423anib. -/
def nibOk (x : Int) : Bool := (decide (48 ≤ x) && decide (x ≤ 57)) || (decide (97 ≤ x) && decide (x ≤ 102)) || (decide (65 ≤ x) && decide (x ≤ 70))
def nibV (x : Int) : Int := if 48 ≤ x ∧ x ≤ 57 then x - 48 else if 97 ≤ x ∧ x ≤ 102 then x - 97 + 10 else if 65 ≤ x ∧ x ≤ 70 then x - 65 + 10 else 0

theorem wrap_u8 {x : Int} (h0 : 0 ≤ x) (h1 : x < 256) : IntKind.u8.wrap x = x := by
  simp [IntKind.wrap, IntKind.bits, IntKind.signed]
  omega

theorem nib_any (x : Int) (h0 : 0 ≤ x) (h1 : x < 256) (w : World) :
    Calls Ybaf.prog 7 #[.int .u8 x] w fun e w' => e = .returned (.tuple #[.int .u8 (nibV x), .bool (nibOk x)]) ∧ w' = w := by
  rcases (by omega : x < 48 ∨ (48 ≤ x ∧ x ≤ 57) ∨ (57 < x ∧ x < 65) ∨ (65 ≤ x ∧ x ≤ 70) ∨ (70 < x ∧ x < 97) ∨ (97 ≤ x ∧ x ≤ 102) ∨ 102 < x) with a | ⟨a, b⟩ | ⟨a, b⟩ | ⟨a, b⟩ | ⟨a, b⟩ | ⟨a, b⟩ | a
  · have ev : nibV x = 0 := by unfold nibV; rw [if_neg (by omega), if_neg (by omega), if_neg (by omega)]
    have eo : nibOk x = false := by unfold nibOk; simp; omega
    rw [ev, eo]
    go_enter Ybaf.func7, Ybaf.ntmps7
    go_wp2
    go_ret2
    exact ⟨rfl, rfl⟩
  · have ev : nibV x = x - 48 := by unfold nibV; rw [if_pos (by omega)]
    have eo : nibOk x = true := by unfold nibOk; simp; omega
    have hw0 : IntKind.u8.wrap (x - 48) = x - 48 := wrap_u8 (by omega) (by omega)
    rw [ev, eo]
    go_enter Ybaf.func7, Ybaf.ntmps7
    go_wp2
    go_ret2
    exact ⟨rfl, rfl⟩
  · have ev : nibV x = 0 := by unfold nibV; rw [if_neg (by omega), if_neg (by omega), if_neg (by omega)]
    have eo : nibOk x = false := by unfold nibOk; simp; omega
    rw [ev, eo]
    go_enter Ybaf.func7, Ybaf.ntmps7
    go_wp2
    go_ret2
    exact ⟨rfl, rfl⟩
  · have ev : nibV x = x - 65 + 10 := by unfold nibV; rw [if_neg (by omega), if_neg (by omega), if_pos (by omega)]
    have eo : nibOk x = true := by unfold nibOk; simp; omega
    have hw0 : IntKind.u8.wrap (x - 65) = x - 65 := wrap_u8 (by omega) (by omega)
    have hw : IntKind.u8.wrap (x - 65 + 10) = x - 65 + 10 := wrap_u8 (by omega) (by omega)
    rw [ev, eo]
    go_enter Ybaf.func7, Ybaf.ntmps7
    go_wp2
    go_ret2
    exact ⟨rfl, rfl⟩
  · have ev : nibV x = 0 := by unfold nibV; rw [if_neg (by omega), if_neg (by omega), if_neg (by omega)]
    have eo : nibOk x = false := by unfold nibOk; simp; omega
    rw [ev, eo]
    go_enter Ybaf.func7, Ybaf.ntmps7
    go_wp2
    go_ret2
    exact ⟨rfl, rfl⟩
  · have ev : nibV x = x - 97 + 10 := by unfold nibV; rw [if_neg (by omega), if_pos (by omega)]
    have eo : nibOk x = true := by unfold nibOk; simp; omega
    have hw0 : IntKind.u8.wrap (x - 97) = x - 97 := wrap_u8 (by omega) (by omega)
    have hw : IntKind.u8.wrap (x - 97 + 10) = x - 97 + 10 := wrap_u8 (by omega) (by omega)
    rw [ev, eo]
    go_enter Ybaf.func7, Ybaf.ntmps7
    go_wp2
    go_ret2
    exact ⟨rfl, rfl⟩
  · have ev : nibV x = 0 := by unfold nibV; rw [if_neg (by omega), if_neg (by omega), if_neg (by omega)]
    have eo : nibOk x = false := by unfold nibOk; simp; omega
    rw [ev, eo]
    go_enter Ybaf.func7, Ybaf.ntmps7
    go_wp2
    go_ret2
    exact ⟨rfl, rfl⟩
end Go.Proofs.YbulkebzoFmt
