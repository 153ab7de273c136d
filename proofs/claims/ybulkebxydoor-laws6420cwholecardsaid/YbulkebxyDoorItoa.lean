import Derived.Test.YbulkebxyDoorBase
namespace Go.Proofs.YbulkebxyDoor
open Go.ChangeShapes Go.WideShapes Go.ChangeAt Go.RowKit
set_option linter.unusedVariables false

/-- The digits of u, none at 0. -/
def digs (u : Nat) : List UInt8 := if u = 0 then [] else Lib.decDigits u

theorem digs_step (u : Nat) (h : 0 < u) : digs u = digs (u / 10) ++ [UInt8.ofNat (48 + u % 10)] := by
  unfold digs
  rw [if_neg (by omega), Lib.decDigits]
  by_cases h10 : u < 10
  · rw [dif_pos h10, if_pos (by omega)]
    rw [Nat.mod_eq_of_lt h10]; rfl
  · rw [dif_neg h10, if_neg (by omega)]

/-- The cells of the array from place i on are the bytes ds. -/
def BytesFrom (w : World) (B i : Nat) (ds : List UInt8) : Prop := ∀ j, j < ds.length → w.cell? ⟨B, i + j, none⟩ = some (.int .u8 ((ds.getD j 0).toNat : Int))

theorem BytesFrom.push {w : World} {B i : Nat} {ds : List UInt8} (h : BytesFrom w B (i + 1) ds) {old : Value} (hold : w.cell? ⟨B, i, none⟩ = some old) (c : UInt8) (x : Int) (hx : x = (c.toNat : Int)) : BytesFrom (w.setCell ⟨B, i, none⟩ (.int .u8 x)) B i (c :: ds) := by
  intro j hj
  subst hx
  cases j with
  | zero => simpa using World.cell?_setCell_same _ _ (.int .u8 (c.toNat : Int)) hold
  | succ j =>
    have := h j (by simpa using hj)
    rw [World.cell?_setCell_other _ _ _ _ (by intro e; have := congrArg Addr.off e; simp only at this; omega)]
    rw [show i + (j + 1) = i + 1 + j by omega, this]
    simp

theorem slice57 (B i : Nat) (w : World) (hi : i < 20) : (Instr.sliceAt 57 (.pointer (some ⟨B, 0, none⟩)) (some (.int .i64 (i : Int))) none none).run Ybad.prog w = .ok (.slice (some ⟨B, i, none⟩) (20 - i) (20 - i)) w := by
  have hal : Ybad.prog.arrayLen 57 = 20 := by simp [Program.arrayLen, Ybad.underlying57]
  have hel : Ybad.prog.elem 57 = 5 := by simp [Program.elem, Ybad.underlying57]
  rw [run_sliceAt_array_l w 57 _ (by simp [Program.arrayLen, Program.elem, Ybad.underlying57]) .i64 _ (by omega) (by rw [hal]; omega)]
  rw [hal, hel, Ybad.sizeOf5]
  simp [slicedAt, show ¬ 20 = i by omega, Addr.add_mid]

theorem strOfNums_bytes (ds : List UInt8) : strOfNums (ds.map fun c => (c.toNat : Int)) = ⟨ds.toArray⟩ := by
  unfold strOfNums
  simp only [List.map_map]
  congr 2
  conv => rhs; rw [← List.map_id ds]
  refine List.map_congr_left fun c _ => ?_
  simp

set_option maxRecDepth 100000 in
set_option maxHeartbeats 400000 in
theorem citoa_pos (u : Nat) (hu0 : 0 < u) (hu : u < 18446744073709551616) (w : World) : Calls Ybad.prog 6 #[.int .u64 u] w (Said ⟨(Lib.decDigits u).toArray⟩ w) := by
  have hub : ((u : Int) == 0) = false := by simp; omega
  have hd : Lib.decDigits u = digs u := by unfold digs; rw [if_neg (by omega)]
  have hdn : digs u ≠ [] := by rw [digs_step u hu0]; simp
  rw [hd]
  have HDN : Hid (digs u ≠ []) := hdn
  clear hd hdn
  go_enter Ybad.func6, Ybad.ntmps6
  go_wp2
  go_loopw [0, 4] (fun uv iv wr => ∃ (i x : Nat) (ds : List UInt8), i ≤ 20 ∧ x < 10 ^ i ∧ x < 18446744073709551616 ∧ uv = .int .u64 x ∧ iv = .int .i64 i ∧ digs u = digs x ++ ds ∧ ds.length = 20 - i ∧ wr.there w.heap.size 0 20 ∧ BytesFrom wr w.heap.size i ds ∧ Below w.heap.size w wr) (fun uv _ _ => (intOf uv).toNat)
  case atStart =>
    refine ⟨20, u, [], Nat.le_refl _, by omega, hu, rfl, rfl, by simp, rfl, ?_, fun j hj => absurd hj (Nat.not_lt_zero _), (Below.refl _ _).alloc (Nat.le_refl _) _⟩
    intro j hj
    rw [Nat.zero_add, World.cell?_alloc_new, World.frozen?_alloc_new]
    refine ⟨?_, rfl⟩
    rw [Array.getElem?_eq_getElem (by simpa using hj)]
    rfl
  case round =>
    obtain ⟨i, x, ds, hi, hx, hx64, rfl, rfl, hdg, hdl, hth, hby, hbr⟩ := hrel
    have HDG : Hid (digs u = digs x ++ ds) := hdg
    have HDL : Hid (ds.length = 20 - i) := hdl
    have HTH : Hid (wr.there w.heap.size 0 20) := hth
    have HBY : Hid (BytesFrom wr w.heap.size i ds) := hby
    clear hdg hdl hth hby
    by_cases hx0 : x = 0
    · subst hx0
      have hi20 : i < 20 := by
        by_cases h : i < 20
        · exact h
        · have h1 := HDL.out
          have h2 : ds = [] := List.eq_nil_of_length_eq_zero (by omega)
          have h3 := HDG.out
          rw [h2] at h3
          exact absurd (by simpa [digs] using h3) HDN.out
      have hcv := run_convert_bytes_arg wr 58 5 Ybad.underlying58 Ybad.underlying5 w.heap.size i (20 - i) (20 - i) (ds.map fun c => (c.toNat : Int)) (by simpa using HDL.out) (fun j hj => by have := HBY.out j (by rw [HDL.out]; exact hj); rw [this]; simp [List.getD, show j < ds.length by rw [HDL.out]; exact hj]) 9 Ybad.underlying9
      rw [strOfNums_bytes] at hcv
      have hsl := slice57 w.heap.size i wr hi20
      go_wp2
      go_ret
      refine ⟨?_, hbr⟩
      have h3 := HDG.out
      have h4 : digs u = ds := by simpa [digs] using h3
      rw [h4]; rfl
    · obtain ⟨i, rfl⟩ : ∃ i', i = i' + 1 := by
        cases i with
        | zero => simp at hx; omega
        | succ i => exact ⟨i, rfl⟩
      have hxp : (0 : Int) < x := by omega
      obtain ⟨⟨vold, hold⟩, hfr⟩ : (∃ v, wr.cell? ⟨w.heap.size, i, none⟩ = some v) ∧ wr.frozen? ⟨w.heap.size, i, none⟩ = false := by
        have := HTH.out i (by omega)
        simp only [Nat.zero_add] at this
        exact ⟨Option.isSome_iff_exists.1 this.1, this.2⟩
      have HX : Hid (x < 10 ^ (i + 1)) := hx
      clear hx
      go_wp2
      go_roundw
      case rel =>
        refine ⟨i, x / 10, UInt8.ofNat (48 + x % 10) :: ds, by omega, ?_, by omega, by go_num, rfl, ?_, ?_, World.there_setCells HTH.out _ _ [_], HBY.out.push hold _ _ ?_, hbr.setCell (Nat.le_refl _) _⟩
        · have := HX.out
          rw [Nat.pow_succ] at this
          omega
        · rw [HDG.out, digs_step x (by omega)]; simp
        · simp [HDL.out]; omega
        · simp; omega
      case measure => simp [intOf]; omega

theorem citoa_any (u : Nat) (hu : u < 18446744073709551616) (w : World) : Calls Ybad.prog 6 #[.int .u64 u] w (Said ⟨(Lib.decDigits u).toArray⟩ w) := by
  by_cases h : u = 0
  · subst h
    have hd : Lib.decDigits 0 = [48] := by rw [Lib.decDigits]; simp
    rw [hd]
    go_enter Ybad.func6, Ybad.ntmps6
    go_wp2
    go_ret
    exact ⟨rfl, Below.refl _ _⟩
  · exact citoa_pos u (by omega) hu w
end Go.Proofs.YbulkebxyDoor
