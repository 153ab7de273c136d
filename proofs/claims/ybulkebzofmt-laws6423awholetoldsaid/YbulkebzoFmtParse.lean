import Derived.Test.YbulkebzoFmtBase
import Derived.Laws.Rows
import Derived.Laws.ResultCell
import Derived.Deep.OwnRows
import Derived.Deep.MidRow
import Derived.Lib.ConvBytes
namespace Go.Proofs.YbulkebzoFmt
open Go.ChangeShapes Go.WideShapes Go.ChangeAt Go.RowKit Go.Extern.Stop Go.Stop Go.Extern Go.Lib
set_option maxRecDepth 100000
set_option linter.unusedVariables false
set_option linter.unusedSimpArgs false

def zs : List Value := (List.replicate 32 (0 : UInt8)).map cell
theorem zs_eq : zs = [.int .u8 0, .int .u8 0, .int .u8 0, .int .u8 0, .int .u8 0, .int .u8 0, .int .u8 0, .int .u8 0, .int .u8 0, .int .u8 0, .int .u8 0, .int .u8 0, .int .u8 0, .int .u8 0, .int .u8 0, .int .u8 0, .int .u8 0, .int .u8 0, .int .u8 0, .int .u8 0, .int .u8 0, .int .u8 0, .int .u8 0, .int .u8 0, .int .u8 0, .int .u8 0, .int .u8 0, .int .u8 0, .int .u8 0, .int .u8 0, .int .u8 0, .int .u8 0] := rfl
def keyAgg (l : List UInt8) : Value := .agg (l.map cell).toArray
def zeroKey : Value := keyAgg (List.replicate 32 0)
theorem zeroKey_eq : zeroKey = .agg #[.int .u8 0, .int .u8 0, .int .u8 0, .int .u8 0, .int .u8 0, .int .u8 0, .int .u8 0, .int .u8 0, .int .u8 0, .int .u8 0, .int .u8 0, .int .u8 0, .int .u8 0, .int .u8 0, .int .u8 0, .int .u8 0, .int .u8 0, .int .u8 0, .int .u8 0, .int .u8 0, .int .u8 0, .int .u8 0, .int .u8 0, .int .u8 0, .int .u8 0, .int .u8 0, .int .u8 0, .int .u8 0, .int .u8 0, .int .u8 0, .int .u8 0, .int .u8 0] := by
  unfold zeroKey keyAgg
  have := zs_eq
  unfold zs at this
  rw [this]

theorem size31 : (Ybaf.prog.info? 31).map (·.size) = some 32 := by kernel_rfl

/-- A new error of errors.New's make (or of fmt.Errorf's without %w). -/
def ErrNew (B : Nat) (ev : Value) (w' : World) : Prop := ∃ (eb : Nat) (x : ByteArray), B ≤ eb ∧ ev = .iface 39 (.pointer (some ⟨eb, 0, none⟩)) ∧ w'.heap[eb]? = some (.cells #[.string x] 41 (0, 0))

theorem limitReader (a : Addr) (w : World) :
    Calls Ybaf.prog 10 #[.iface 27 (.pointer (some a)), .int .i64 66] w fun e w' => e = .returned (.iface 59 (.pointer (some ⟨w.heap.size, 0, none⟩))) ∧ w' = w.alloc (.cells #[.iface 27 (.pointer (some a)), .int .i64 66] 61) := by
  go_enter Ybaf.func10, Ybaf.ntmps10
  go_wp2
  go_ret
  exact ⟨rfl, rfl⟩

theorem there_new (w : World) (cs : Array Value) (t : TypeId) : (w.alloc (.cells cs t)).there w.heap.size 0 cs.size := by
  intro j hj
  have h := heap_alloc_new w (.cells cs t)
  refine ⟨?_, frozen_of_row h⟩
  rw [cell_of_row h (v := cs[0 + j]'(by omega)) (by simp)]
  rfl

theorem results_key {fn : Func} (h : fn.results = #[.cell 2 31, .tmp 3]) (tmps : Array Value) (w : World) (b : Nat) (cs : List Value) (hp : tmps.getD 2 undef = .pointer (some ⟨b, 0, none⟩)) (hr : w.rangeAt b 0 cs) (hl : cs.length = 32) :
    (results fn tmps).run Ybaf.prog w = .ok (.tuple #[.agg cs.toArray, tmps.getD 3 undef]) w := by
  rw [results_cell_tmp h, hp]
  have e : (loadVar 31 ⟨b, 0, none⟩).run Ybaf.prog w = .ok (.agg cs.toArray) w := run_loadVar_mid w b 0 31 cs _ hr Ybaf.underlying31 rfl (by rw [size31, hl])
  simp [asAddr, e, Result.andThen]

theorem size31z : (Ybaf.prog.info? 31).map (·.size) = some (#[.int .u8 0, .int .u8 0, .int .u8 0, .int .u8 0, .int .u8 0, .int .u8 0, .int .u8 0, .int .u8 0, .int .u8 0, .int .u8 0, .int .u8 0, .int .u8 0, .int .u8 0, .int .u8 0, .int .u8 0, .int .u8 0, .int .u8 0, .int .u8 0, .int .u8 0, .int .u8 0, .int .u8 0, .int .u8 0, .int .u8 0, .int .u8 0, .int .u8 0, .int .u8 0, .int .u8 0, .int .u8 0, .int .u8 0, .int .u8 0, .int .u8 0, .int .u8 0] : Array Value).size := by kernel_rfl
theorem onez : (#[.int .u8 0, .int .u8 0, .int .u8 0, .int .u8 0, .int .u8 0, .int .u8 0, .int .u8 0, .int .u8 0, .int .u8 0, .int .u8 0, .int .u8 0, .int .u8 0, .int .u8 0, .int .u8 0, .int .u8 0, .int .u8 0, .int .u8 0, .int .u8 0, .int .u8 0, .int .u8 0, .int .u8 0, .int .u8 0, .int .u8 0, .int .u8 0, .int .u8 0, .int .u8 0, .int .u8 0, .int .u8 0, .int .u8 0, .int .u8 0, .int .u8 0, .int .u8 0] : Array Value).all (fun x => x.oneCell') = true := by kernel_rfl
/-- The two key variables, new. -/
structure Two (w W : World) : Prop where
  size : W.heap.size = w.heap.size + 2
  below : Below w.heap.size w W
  a : W.heap[w.heap.size]? = some (.cells #[.int .u8 0, .int .u8 0, .int .u8 0, .int .u8 0, .int .u8 0, .int .u8 0, .int .u8 0, .int .u8 0, .int .u8 0, .int .u8 0, .int .u8 0, .int .u8 0, .int .u8 0, .int .u8 0, .int .u8 0, .int .u8 0, .int .u8 0, .int .u8 0, .int .u8 0, .int .u8 0, .int .u8 0, .int .u8 0, .int .u8 0, .int .u8 0, .int .u8 0, .int .u8 0, .int .u8 0, .int .u8 0, .int .u8 0, .int .u8 0, .int .u8 0, .int .u8 0] 31 (0, 0))
  b : W.heap[w.heap.size + 1]? = some (.cells #[.int .u8 0, .int .u8 0, .int .u8 0, .int .u8 0, .int .u8 0, .int .u8 0, .int .u8 0, .int .u8 0, .int .u8 0, .int .u8 0, .int .u8 0, .int .u8 0, .int .u8 0, .int .u8 0, .int .u8 0, .int .u8 0, .int .u8 0, .int .u8 0, .int .u8 0, .int .u8 0, .int .u8 0, .int .u8 0, .int .u8 0, .int .u8 0, .int .u8 0, .int .u8 0, .int .u8 0, .int .u8 0, .int .u8 0, .int .u8 0, .int .u8 0, .int .u8 0] 31 (0, 0))
theorem two_new (w : World) : Two w ((w.alloc (.cells #[.int .u8 0, .int .u8 0, .int .u8 0, .int .u8 0, .int .u8 0, .int .u8 0, .int .u8 0, .int .u8 0, .int .u8 0, .int .u8 0, .int .u8 0, .int .u8 0, .int .u8 0, .int .u8 0, .int .u8 0, .int .u8 0, .int .u8 0, .int .u8 0, .int .u8 0, .int .u8 0, .int .u8 0, .int .u8 0, .int .u8 0, .int .u8 0, .int .u8 0, .int .u8 0, .int .u8 0, .int .u8 0, .int .u8 0, .int .u8 0, .int .u8 0, .int .u8 0] 31)).alloc (.cells #[.int .u8 0, .int .u8 0, .int .u8 0, .int .u8 0, .int .u8 0, .int .u8 0, .int .u8 0, .int .u8 0, .int .u8 0, .int .u8 0, .int .u8 0, .int .u8 0, .int .u8 0, .int .u8 0, .int .u8 0, .int .u8 0, .int .u8 0, .int .u8 0, .int .u8 0, .int .u8 0, .int .u8 0, .int .u8 0, .int .u8 0, .int .u8 0, .int .u8 0, .int .u8 0, .int .u8 0, .int .u8 0, .int .u8 0, .int .u8 0, .int .u8 0, .int .u8 0] 31)) :=
  ⟨by simp, ((Below.refl _ _).alloc (Nat.le_refl _) _).alloc (by simp) _, heap_alloc2_old _ _ _, heap_alloc2_new _ _ _⟩
theorem there_row {W : World} {b n : Nat} {cs : Array Value} {t : TypeId} (h : W.heap[b]? = some (.cells cs t (0, 0))) (hn : cs.size = n) : W.there b 0 n := by
  intro j hj
  refine ⟨?_, frozen_of_row h⟩
  rw [cell_of_row h (v := cs[0 + j]'(by omega)) (by simp)]
  rfl
theorem heap_setCells_other (b : Nat) : ∀ (vs : List Value) (o : Nat) (w : World) (k : Nat), k ≠ b → (w.setCells b o vs).heap[k]? = w.heap[k]?
  | [], _, _, _, _ => rfl
  | v :: vs, o, w, k, h => by
    rw [World.setCells, heap_setCells_other b vs (o + 1) _ k h]
    exact heap_setCell_other w _ k v h
theorem below_setCells {B b : Nat} {w0 w : World} (hb : Below B w0 w) (hB : B ≤ b) : ∀ (vs : List Value) (o : Nat), Below B w0 (w.setCells b o vs) := by
  intro vs
  induction vs generalizing w with
  | nil => intro o; exact hb
  | cons v vs ih =>
    intro o
    rw [World.setCells]
    refine ih (w := w.setCell ⟨b, o, none⟩ v) ?_ (o + 1)
    exact hb.trans ⟨rfl, rfl, rfl, by simp, fun k hk => heap_setCell_other w _ k v (by show k ≠ b; omega)⟩

set_option maxHeartbeats 1000000 in
theorem parse_len (F : Interp) (s : ByteArray) (w : World) (hF : F.answers w.tape) (hs : s.size ≤ 1000) (h64 : s.size ≠ 64) :
    Calls Ybaf.prog 12 #[.string s] w fun e w' => Below w.heap.size w w' ∧ ∃ ev, e = .returned (.tuple #[zeroKey, ev]) ∧ ErrNew w.heap.size ev w' := by
  have hq : ¬ ((s.size : Int) = 64) := by omega
  go_enter Ybaf.func12, Ybaf.ntmps12
  go_upto_region 2 with fail
  obtain ⟨W, hW⟩ : ∃ W, W = (w.alloc (.cells #[.int .u8 0, .int .u8 0, .int .u8 0, .int .u8 0, .int .u8 0, .int .u8 0, .int .u8 0, .int .u8 0, .int .u8 0, .int .u8 0, .int .u8 0, .int .u8 0, .int .u8 0, .int .u8 0, .int .u8 0, .int .u8 0, .int .u8 0, .int .u8 0, .int .u8 0, .int .u8 0, .int .u8 0, .int .u8 0, .int .u8 0, .int .u8 0, .int .u8 0, .int .u8 0, .int .u8 0, .int .u8 0, .int .u8 0, .int .u8 0, .int .u8 0, .int .u8 0] 31)).alloc (.cells #[.int .u8 0, .int .u8 0, .int .u8 0, .int .u8 0, .int .u8 0, .int .u8 0, .int .u8 0, .int .u8 0, .int .u8 0, .int .u8 0, .int .u8 0, .int .u8 0, .int .u8 0, .int .u8 0, .int .u8 0, .int .u8 0, .int .u8 0, .int .u8 0, .int .u8 0, .int .u8 0, .int .u8 0, .int .u8 0, .int .u8 0, .int .u8 0, .int .u8 0, .int .u8 0, .int .u8 0, .int .u8 0, .int .u8 0, .int .u8 0, .int .u8 0, .int .u8 0] 31) := ⟨_, rfl⟩
  have htwo : Two w W := by rw [hW]; exact two_new w
  have HF : Hid (F.answers W.tape) := by rw [hW]; exact hF
  rw [← hW]
  clear hW hF
  have HW : Hid (Two w W) := htwo
  have HT : Hid (∀ o2 o3, ((W.alloc o2).alloc o3).drew.there w.heap.size 0 (#[.int .u8 0, .int .u8 0, .int .u8 0, .int .u8 0, .int .u8 0, .int .u8 0, .int .u8 0, .int .u8 0, .int .u8 0, .int .u8 0, .int .u8 0, .int .u8 0, .int .u8 0, .int .u8 0, .int .u8 0, .int .u8 0, .int .u8 0, .int .u8 0, .int .u8 0, .int .u8 0, .int .u8 0, .int .u8 0, .int .u8 0, .int .u8 0, .int .u8 0, .int .u8 0, .int .u8 0, .int .u8 0, .int .u8 0, .int .u8 0, .int .u8 0, .int .u8 0] : Array Value).size) := fun o2 o3 => by
    rw [World.there_drew]
    exact World.there_alloc (World.there_alloc (there_row htwo.a rfl) o2) o3
  clear htwo
  go_wp2_with (first | (go_at_call 8; refine (Ybaf.hex_EncodedLen 32 (by omega) (by omega) _).mono ?_; rintro e w' ⟨rfl, rfl⟩) | (go_at_call 11; refine (errorf_c F s.size 64 _ _ (by exact HF.out) (by go_simp) (by go_simp)).mono ?_; rintro e w' ⟨x, rfl, rfl⟩) | ((with_reducible apply wpList_store_mid (ty := 31) (x := .tmp 2) (y := .tmp 11)); rfl; rfl; rfl; rfl; exact HT.out _ _; exact size31z; exact onez))
  have hw := HW.out
  have ht := HT.out (.cells #[.iface 3 (.int .i64 s.size), .iface 3 (.int .i64 64)] 20) (.cells #[.string x] 41)
  refine bodyPost_ret (results_key rfl _ _ w.heap.size [.int .u8 0, .int .u8 0, .int .u8 0, .int .u8 0, .int .u8 0, .int .u8 0, .int .u8 0, .int .u8 0, .int .u8 0, .int .u8 0, .int .u8 0, .int .u8 0, .int .u8 0, .int .u8 0, .int .u8 0, .int .u8 0, .int .u8 0, .int .u8 0, .int .u8 0, .int .u8 0, .int .u8 0, .int .u8 0, .int .u8 0, .int .u8 0, .int .u8 0, .int .u8 0, .int .u8 0, .int .u8 0, .int .u8 0, .int .u8 0, .int .u8 0, .int .u8 0] rfl (World.rangeAt_setCells_same _ _ _ _ ht) rfl) rfl ?_
  refine ⟨below_setCells ((hw.below.alloc (by have := hw.size; omega) _).alloc (by have := hw.size; simp; omega) _).drew (Nat.le_refl _) _ _, _, ?_, w'.heap.size + 1, x, by have := hw.size; omega, rfl, ?_⟩
  · rw [zeroKey_eq]; rfl
  · rw [heap_setCells_other _ _ _ _ _ (by have := hw.size; omega)]
    exact heap_alloc2_new _ _ _

theorem decode_even : ∀ (n : Nat) (l : List UInt8), l.length = 2 * n → (Hx.decode l).2 ≠ .odd ∧ ((Hx.decode l).2 = .ok → (Hx.decode l).1.length = n) ∧ (Hx.decode l).1.length ≤ n
  | 0, l, h => by
    obtain rfl : l = [] := List.eq_nil_of_length_eq_zero (by omega)
    rw [Hx.decode_nil]
    simp
  | n + 1, [], h => by simp at h
  | n + 1, [a], h => by simp at h; omega
  | n + 1, a :: b :: l, h => by
    obtain ⟨h1, h2, h3⟩ := decode_even n l (by simp at h; omega)
    rw [Hx.decode_two]
    by_cases c1 : 15 < Hx.v a
    · rw [if_pos c1]; simp
    · by_cases c2 : 15 < Hx.v b
      · rw [if_neg c1, if_pos c2]; simp
      · rw [if_neg c1, if_neg c2]
        refine ⟨h1, fun h => ?_, ?_⟩
        · simp [h2 h]
        · simp; exact h3
theorem below_bytes (W : World) (s : ByteArray) : Below W.heap.size W (Lib.bytesWorld W 5 s) :=
  ⟨by simp [Lib.bytesWorld, World.freeze, World.alloc, World.drew, -World.alloc_eq, -World.drew_eq], by simp [Lib.bytesWorld, World.freeze, World.alloc, World.drew, -World.alloc_eq, -World.drew_eq], by simp [Lib.bytesWorld, World.freeze, World.alloc, World.drew, -World.alloc_eq, -World.drew_eq], by rw [Lib.bytesWorld_size]; omega, fun k hk => Lib.bytesWorld_at_old W 5 s k hk⟩
def numsOf (s : ByteArray) : List Int := s.data.toList.map fun b => (b.toNat : Int)
theorem numsOf_length (s : ByteArray) : (numsOf s).length = s.size := by simp [numsOf]
theorem numsOf_getD (s : ByteArray) (i : Nat) : (numsOf s).getD i 0 = ((s.data.toList.getD i 0).toNat : Int) := by
  unfold numsOf
  simp only [List.getD, List.getElem?_map]
  cases h : s.data.toList[i]? <;> simp [h]
/-- What the two key variables and the world are behind hex.Decode. -/
structure Dec (w W w2 : World) (pre : List UInt8) : Prop where
  below : Below w.heap.size w w2
  a : w2.heap[w.heap.size]? = some (.cells #[.int .u8 0, .int .u8 0, .int .u8 0, .int .u8 0, .int .u8 0, .int .u8 0, .int .u8 0, .int .u8 0, .int .u8 0, .int .u8 0, .int .u8 0, .int .u8 0, .int .u8 0, .int .u8 0, .int .u8 0, .int .u8 0, .int .u8 0, .int .u8 0, .int .u8 0, .int .u8 0, .int .u8 0, .int .u8 0, .int .u8 0, .int .u8 0, .int .u8 0, .int .u8 0, .int .u8 0, .int .u8 0, .int .u8 0, .int .u8 0, .int .u8 0, .int .u8 0] 31 (0, 0))
  b : w2.rowIs (w.heap.size + 1) 31 32 (Hx.rowP (fun _ => .int .u8 0) 0 pre)
  size : w.heap.size + 2 ≤ w2.heap.size
theorem row_zero : ∀ i, i < 32 → (#[.int .u8 0, .int .u8 0, .int .u8 0, .int .u8 0, .int .u8 0, .int .u8 0, .int .u8 0, .int .u8 0, .int .u8 0, .int .u8 0, .int .u8 0, .int .u8 0, .int .u8 0, .int .u8 0, .int .u8 0, .int .u8 0, .int .u8 0, .int .u8 0, .int .u8 0, .int .u8 0, .int .u8 0, .int .u8 0, .int .u8 0, .int .u8 0, .int .u8 0, .int .u8 0, .int .u8 0, .int .u8 0, .int .u8 0, .int .u8 0, .int .u8 0, .int .u8 0] : Array Value)[i]? = some (.int .u8 0) := by
  intro i hi
  show (zs.toArray)[i]? = some (cell 0)
  simp only [zs, List.getElem?_toArray, List.getElem?_map, List.getElem?_replicate, if_pos hi]
  rfl
theorem decode_call (s : ByteArray) (w W : World) (ev1 : Value) (h64 : s.size = 64) (hE : w.cell? ⟨1, 0, none⟩ = some ev1) (h : Two w W) (cs : Nat) :
    Calls Ybaf.prog 17 #[.slice (some ⟨w.heap.size + 1, 0, none⟩) 32 32, .slice (some ⟨W.heap.size, 0, none⟩) 64 cs] (Lib.bytesWorld W 5 s) fun e w2 =>
      e = .returned (.tuple #[.int .i64 ((Hx.decode s.data.toList).1.length : Int), Hx.errVal 76 ev1 (Hx.decode s.data.toList).2]) ∧ Dec w W w2 (Hx.decode s.data.toList).1 := by
  have h1 : 1 < w.heap.size := World.block_lt_of_cell? w _ hE
  have hsz := h.size
  have hbs := Lib.bytesWorld_size W 5 s
  have hrow : (Lib.bytesWorld W 5 s).rowIs (w.heap.size + 1) 31 32 (fun _ => .int .u8 0) := ⟨#[.int .u8 0, .int .u8 0, .int .u8 0, .int .u8 0, .int .u8 0, .int .u8 0, .int .u8 0, .int .u8 0, .int .u8 0, .int .u8 0, .int .u8 0, .int .u8 0, .int .u8 0, .int .u8 0, .int .u8 0, .int .u8 0, .int .u8 0, .int .u8 0, .int .u8 0, .int .u8 0, .int .u8 0, .int .u8 0, .int .u8 0, .int .u8 0, .int .u8 0, .int .u8 0, .int .u8 0, .int .u8 0, .int .u8 0, .int .u8 0, .int .u8 0, .int .u8 0], (Lib.bytesWorld_at_old W 5 s _ (by omega)).trans h.b, rfl, row_zero⟩
  have hb : Lib.bytesOf (numsOf s) = s.data.toList := bytesOf_map _
  refine (Ybaf.hex_Decode_tag 31 (w.heap.size + 1) 0 32 32 32 (fun _ => .int .u8 0) W.heap.size 0 64 cs (numsOf s) (Lib.bytesWorld W 5 s) ev1 (by rw [numsOf_length, h64]) (fun i hi => ?_) (fun i hi => ?_) hrow (by omega) (by omega) (by omega) (by omega) ?_ (by omega)).mono ?_
  · rw [numsOf_getD]
    have := UInt8.toNat_lt (s.data.toList.getD i 0)
    omega
  · rw [numsOf_getD, Nat.zero_add]
    exact Lib.bytesWorld_cell W 5 s i (by omega)
  · rw [Lib.bytesWorld_old W 5 s _ (by show 1 < W.heap.size; omega)]
    exact (h.below.cell (by show 1 < w.heap.size; omega)).trans hE
  · rintro e w2 ⟨he, hr, hg⟩
    rw [hb] at he hr
    refine ⟨he, ?_, ?_, hr, ?_⟩
    · exact (h.below.trans ((below_bytes W s).mono (by omega))).grown hg (by omega) (by intro k hk; cases hk; omega)
    · rw [hg.block w.heap.size (by omega) (by simp), Lib.bytesWorld_at_old W 5 s _ (by omega)]
      exact h.a
    · have := hg.size
      omega

theorem decode_ok (s : ByteArray) (w W : World) (ev1 : Value) (h64 : s.size = 64) (hE : w.cell? ⟨1, 0, none⟩ = some ev1) (h : Two w W) (cs : Nat) (hk : (Hx.decode s.data.toList).2 = .ok) :
    Calls Ybaf.prog 17 #[.slice (some ⟨w.heap.size + 1, 0, none⟩) 32 32, .slice (some ⟨W.heap.size, 0, none⟩) 64 cs] (Lib.bytesWorld W 5 s) fun e w2 =>
      e = .returned (.tuple #[.int .i64 ((Hx.decode s.data.toList).1.length : Int), .nilIface]) ∧ Dec w W w2 (Hx.decode s.data.toList).1 :=
  (decode_call s w W ev1 h64 hE h cs).mono fun e w2 ⟨he, hd⟩ => ⟨by rw [he, hk]; rfl, hd⟩
theorem decode_bad (s : ByteArray) (w W : World) (ev1 : Value) (h64 : s.size = 64) (hE : w.cell? ⟨1, 0, none⟩ = some ev1) (h : Two w W) (cs : Nat) (hk : ¬ (Hx.decode s.data.toList).2 = .ok) (hk1 : (Hx.decode s.data.toList).2 ≠ .odd) :
    Calls Ybaf.prog 17 #[.slice (some ⟨w.heap.size + 1, 0, none⟩) 32 32, .slice (some ⟨W.heap.size, 0, none⟩) 64 cs] (Lib.bytesWorld W 5 s) fun e w2 =>
      ∃ (n : Int) (c : Int), e = .returned (.tuple #[.int .i64 n, .iface 76 (.int .u8 c)]) ∧ Dec w W w2 (Hx.decode s.data.toList).1 :=
  (decode_call s w W ev1 h64 hE h cs).mono fun e w2 ⟨he, hd⟩ => by
    cases hc : (Hx.decode s.data.toList).2 with
    | ok => exact absurd hc hk
    | odd => exact absurd hc hk1
    | bad c => exact ⟨_, c.toNat, by rw [he, hc]; rfl, hd⟩
theorem Dec.range {w W w2 : World} {pre : List UInt8} (h : Dec w W w2 pre) (hl : pre.length = 32) : w2.rangeAt (w.heap.size + 1) 0 (pre.map cell) := by
  intro j v hv
  obtain ⟨c, hc, hs, hf⟩ := h.b
  have hj : j < 32 := by have := (List.getElem?_eq_some_iff.1 hv).1; simp at this; omega
  rw [Nat.zero_add]
  refine cell_of_row hc ?_
  rw [hf j hj]
  rw [List.getElem?_map, Option.map_eq_some_iff] at hv
  obtain ⟨b, hb, rfl⟩ := hv
  unfold Hx.rowP
  rw [if_pos (by omega), Nat.sub_zero, hb]
  rfl

set_option maxHeartbeats 1000000 in
theorem parse_64 (s : ByteArray) (w : World) (ev1 : Value) (h64 : s.size = 64) (hE : w.cell? ⟨1, 0, none⟩ = some ev1) :
    Calls Ybaf.prog 12 #[.string s] w fun e w' => Below w.heap.size w w' ∧ ∃ k ev, e = .returned (.tuple #[keyAgg k, ev]) ∧ k.length = 32 ∧
      ((Hx.decode s.data.toList).2 = .ok → k = (Hx.decode s.data.toList).1 ∧ ev = .nilIface) ∧ ((Hx.decode s.data.toList).2 ≠ .ok → k = List.replicate 32 0 ∧ ErrNew w.heap.size ev w') := by
  have hq : ((s.size : Int) = 64) := by omega
  have hl : s.data.toList.length = 2 * 32 := by have : s.data.toList.length = s.size := by simp
                                                omega
  obtain ⟨d1, d2, d3⟩ := decode_even 32 s.data.toList hl
  have HE : Hid (w.cell? ⟨1, 0, none⟩ = some ev1) := hE
  have hconv := fun W => Lib.run_convert_string_bytes (P := Ybaf.prog) W 9 22 5 s Ybaf.underlying9 Ybaf.underlying22 Ybaf.underlying5
  clear hE
  rw [h64] at hconv
  by_cases hk : (Hx.decode s.data.toList).2 = .ok
  · have hD := d2 hk
    have HK : Hid ((Hx.decode s.data.toList).2 = .ok) := hk
    have HD : Hid ((Hx.decode s.data.toList).1.length = 32) := hD
    clear hk hD d1 d2 d3
    go_enter Ybaf.func12, Ybaf.ntmps12
    go_upto_region 2 with fail
    obtain ⟨W, hW⟩ : ∃ W, W = (w.alloc (.cells #[.int .u8 0, .int .u8 0, .int .u8 0, .int .u8 0, .int .u8 0, .int .u8 0, .int .u8 0, .int .u8 0, .int .u8 0, .int .u8 0, .int .u8 0, .int .u8 0, .int .u8 0, .int .u8 0, .int .u8 0, .int .u8 0, .int .u8 0, .int .u8 0, .int .u8 0, .int .u8 0, .int .u8 0, .int .u8 0, .int .u8 0, .int .u8 0, .int .u8 0, .int .u8 0, .int .u8 0, .int .u8 0, .int .u8 0, .int .u8 0, .int .u8 0, .int .u8 0] 31)).alloc (.cells #[.int .u8 0, .int .u8 0, .int .u8 0, .int .u8 0, .int .u8 0, .int .u8 0, .int .u8 0, .int .u8 0, .int .u8 0, .int .u8 0, .int .u8 0, .int .u8 0, .int .u8 0, .int .u8 0, .int .u8 0, .int .u8 0, .int .u8 0, .int .u8 0, .int .u8 0, .int .u8 0, .int .u8 0, .int .u8 0, .int .u8 0, .int .u8 0, .int .u8 0, .int .u8 0, .int .u8 0, .int .u8 0, .int .u8 0, .int .u8 0, .int .u8 0, .int .u8 0] 31) := ⟨_, rfl⟩
    have htwo : Two w W := by rw [hW]; exact two_new w
    rw [← hW]
    clear hW
    have HW : Hid (Two w W) := htwo
    clear htwo
    go_upto_region 5 with (first | (go_at_call 8; refine (Ybaf.hex_EncodedLen 32 (by omega) (by omega) _).mono ?_; rintro e w' ⟨rfl, rfl⟩) | (go_at_call 17; refine (decode_ok s w _ ev1 h64 HE.out HW.out _ HK.out).mono ?_; rintro e w2 ⟨rfl, hdec⟩))
    have HDEC : Hid (Dec w w' w2 (Hx.decode s.data.toList).1) := hdec
    obtain ⟨D, hDD⟩ : ∃ D, D = (Hx.decode s.data.toList).1 := ⟨_, rfl⟩
    have hlen : D.length = 32 := by rw [hDD]; exact HD.out
    rw [← hDD] at hdec
    have HRG : Hid (w2.rangeAt (w.heap.size + 1) 0 (D.map cell)) := hdec.range hlen
    have HSZ : Hid ((Ybaf.prog.info? 31).map (·.size) = some (D.map cell).length) := by show _ = _; rw [size31, List.length_map, hlen]
    have HSZ2 : Hid ((Ybaf.prog.info? 31).map (·.size) = some (D.map cell).toArray.size) := by show _ = _; rw [size31, List.size_toArray, List.length_map, hlen]
    have HONE : Hid ((D.map cell).toArray.all (fun x => x.oneCell') = true) := all_oneCell_toArray (fun v hv => by obtain ⟨b, _, rfl⟩ := List.mem_map.1 hv; rfl)
    have hsz1 : (D.map cell).toArray.size = 32 := by simp [hlen]
    have hsz2 : (D.map cell).length = 32 := by simp [hlen]
    have HT : Hid (w2.there w.heap.size 0 (D.map cell).toArray.size) := by
      show World.there _ _ _ _
      rw [hsz1]
      exact there_row hdec.a rfl
    have HT2 : Hid (w2.there w.heap.size 0 (D.map cell).length) := by
      show World.there _ _ _ _
      rw [hsz2]
      exact there_row hdec.a rfl
    clear hsz1 hsz2
    have hbel := hdec.below
    have HDD : Hid (D = (Hx.decode s.data.toList).1) := hDD
    clear hdec hDD
    go_wp2_with (first | ((with_reducible apply wpList_load_mid (ty := 31) (x := .tmp 4) (cs := D.map cell) (hu := Ybaf.underlying31)); rfl; rfl; rfl; exact HRG.out; rfl; exact HSZ.out) | ((with_reducible apply wpList_store_mid (ty := 31) (x := .tmp 2) (y := .tmp 30)); rfl; rfl; rfl; rfl; exact HT.out; exact HSZ2.out; exact HONE.out))
    refine bodyPost_ret (results_key rfl _ _ w.heap.size (D.map cell) rfl (World.rangeAt_setCells_same _ _ _ _ HT2.out) (by rw [List.length_map, hlen])) rfl ?_
    exact ⟨below_setCells hbel (Nat.le_refl _) _ _, D, _, rfl, hlen, fun _ => ⟨HDD.out, rfl⟩, fun h => absurd HK.out h⟩
  · have HK : Hid (¬ (Hx.decode s.data.toList).2 = .ok) := hk
    have HK1 : Hid ((Hx.decode s.data.toList).2 ≠ .odd) := d1
    clear hk d1 d2 d3
    go_enter Ybaf.func12, Ybaf.ntmps12
    go_upto_region 2 with fail
    obtain ⟨W, hW⟩ : ∃ W, W = (w.alloc (.cells #[.int .u8 0, .int .u8 0, .int .u8 0, .int .u8 0, .int .u8 0, .int .u8 0, .int .u8 0, .int .u8 0, .int .u8 0, .int .u8 0, .int .u8 0, .int .u8 0, .int .u8 0, .int .u8 0, .int .u8 0, .int .u8 0, .int .u8 0, .int .u8 0, .int .u8 0, .int .u8 0, .int .u8 0, .int .u8 0, .int .u8 0, .int .u8 0, .int .u8 0, .int .u8 0, .int .u8 0, .int .u8 0, .int .u8 0, .int .u8 0, .int .u8 0, .int .u8 0] 31)).alloc (.cells #[.int .u8 0, .int .u8 0, .int .u8 0, .int .u8 0, .int .u8 0, .int .u8 0, .int .u8 0, .int .u8 0, .int .u8 0, .int .u8 0, .int .u8 0, .int .u8 0, .int .u8 0, .int .u8 0, .int .u8 0, .int .u8 0, .int .u8 0, .int .u8 0, .int .u8 0, .int .u8 0, .int .u8 0, .int .u8 0, .int .u8 0, .int .u8 0, .int .u8 0, .int .u8 0, .int .u8 0, .int .u8 0, .int .u8 0, .int .u8 0, .int .u8 0, .int .u8 0] 31) := ⟨_, rfl⟩
    have htwo : Two w W := by rw [hW]; exact two_new w
    rw [← hW]
    clear hW
    have HW : Hid (Two w W) := htwo
    clear htwo
    go_upto_region 5 with (first | (go_at_call 8; refine (Ybaf.hex_EncodedLen 32 (by omega) (by omega) _).mono ?_; rintro e w' ⟨rfl, rfl⟩) | (go_at_call 17; refine (decode_bad s w _ ev1 h64 HE.out HW.out _ HK.out HK1.out).mono ?_; rintro e w2 ⟨nn, cc, rfl, hdec⟩))
    have hsz := hdec.size
    have hbel := hdec.below
    have HT : Hid (∀ o2, (w2.alloc o2).there w.heap.size 0 (#[.int .u8 0, .int .u8 0, .int .u8 0, .int .u8 0, .int .u8 0, .int .u8 0, .int .u8 0, .int .u8 0, .int .u8 0, .int .u8 0, .int .u8 0, .int .u8 0, .int .u8 0, .int .u8 0, .int .u8 0, .int .u8 0, .int .u8 0, .int .u8 0, .int .u8 0, .int .u8 0, .int .u8 0, .int .u8 0, .int .u8 0, .int .u8 0, .int .u8 0, .int .u8 0, .int .u8 0, .int .u8 0, .int .u8 0, .int .u8 0, .int .u8 0, .int .u8 0] : Array Value).size) := fun o2 => World.there_alloc (there_row hdec.a rfl) o2
    clear hdec
    go_wp2_with (first | (go_at_call 4; refine (errorsNew _ _).mono ?_; rintro e w' ⟨rfl, rfl⟩) | ((with_reducible apply wpList_store_mid (ty := 31) (x := .tmp 2) (y := .tmp 28)); rfl; rfl; rfl; rfl; exact HT.out _; exact size31z; exact onez))
    refine bodyPost_ret (results_key rfl _ _ w.heap.size [.int .u8 0, .int .u8 0, .int .u8 0, .int .u8 0, .int .u8 0, .int .u8 0, .int .u8 0, .int .u8 0, .int .u8 0, .int .u8 0, .int .u8 0, .int .u8 0, .int .u8 0, .int .u8 0, .int .u8 0, .int .u8 0, .int .u8 0, .int .u8 0, .int .u8 0, .int .u8 0, .int .u8 0, .int .u8 0, .int .u8 0, .int .u8 0, .int .u8 0, .int .u8 0, .int .u8 0, .int .u8 0, .int .u8 0, .int .u8 0, .int .u8 0, .int .u8 0] rfl (World.rangeAt_setCells_same _ _ _ _ (HT.out _)) rfl) rfl ?_
    refine ⟨below_setCells (hbel.alloc (by omega) _) (Nat.le_refl _) _ _, List.replicate 32 0, _, ?_, by simp, fun h => absurd h HK.out, fun _ => ⟨rfl, w2.heap.size, _, by omega, rfl, (heap_setCells_other _ _ _ _ _ (by omega)).trans (heap_alloc_new _ _)⟩⟩
    · show _ = Ending.returned (.tuple #[zeroKey, _])
      rw [zeroKey_eq]
      rfl
end Go.Proofs.YbulkebzoFmt
