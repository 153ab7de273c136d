import Derived.Test.YbulkebxyDoorRowsLib
namespace Go.Proofs.YbulkebxyDoor
open Go.ChangeShapes Go.WideShapes Go.ChangeAt Go.RowKit
set_option linter.unusedVariables false
set_option linter.unusedSimpArgs false

set_option maxRecDepth 100000 in
set_option maxHeartbeats 4000000 in
theorem walk_empty (msl : Int) (x : Addr) (c : Nat) (rows : Nat → DsRow) (w : World) (hm0 : -9223372036854775808 ≤ msl) (hm1 : msl ≤ 9223372036854775807) (htab : Lib.TabIs Ybad.prog w "internal/strconv.uint64pow10" .u64 Lib.pow10Tab) :
    Calls Ybad.prog 3 #[.int .i64 msl, .slice (some x) 0 c] w fun e w' => e = .returned (.bool true) ∧ Below w.heap.size w w' := by
  have HTAB : Hid (Lib.TabIs Ybad.prog w "internal/strconv.uint64pow10" .u64 Lib.pow10Tab) := htab
  clear htab
  have hp22 := p22
  obtain ⟨i0, hi, hz0, hz1, hz2⟩ := info_parts info30
  go_enter Ybad.func3, Ybad.ntmps3
  go_upto_region 8 with (first | (at_make; refine wpList_make_full _ rfl (.tmp 26) (.tmp 26) 23 rfl w.heap.size 30 i0 _ 8 Ybad.underlying23 hi hz0 hz1 _ _ _ _ 0 rfl rfl rfl rfl (by rw [hz2]; omega) (by unfold maxLen; omega) (Nat.le_refl _) ?_; intro wA hownA hgrowA) | (at_make; refine wpList_make_full _ rfl (.tmp 29) (.tmp 29) 23 rfl wA.heap.size 30 i0 _ 8 Ybad.underlying23 hi hz0 hz1 _ _ _ _ 0 rfl rfl rfl rfl (by rw [hz2]; omega) (by unfold maxLen; omega) (Nat.le_refl _) ?_; intro wB hownB hgrowB))
  have hbA : Below w.heap.size w wA := (Below.refl _ _).grown hgrowA (Nat.le_refl _) (by intro k h; cases h)
  have hsA : w.heap.size < wA.heap.size := (hownA.lt _ rfl).2
  have hbB : Below wA.heap.size wA wB := (Below.refl _ _).grown hgrowB (Nat.le_refl _) (by intro k h; cases h)
  have hbW : Below w.heap.size w wB := hbA.trans (hbB.mono (by omega))
  clear hownA hgrowA hownB hgrowB hbB hbA hi hz0 hz1 hz2 i0
  go_wp2_with fail
  go_loopw [33] (fun i wr => i = .int .i64 0 ∧ Below w.heap.size w wr) (fun _ _ => 0)
  case atStart => exact ⟨rfl, hbW⟩
  case round =>
    obtain ⟨rfl, hbr⟩ := hrel
    clear hbW
    obtain ⟨W1, rfl⟩ : ∃ W, W = wr := ⟨_, rfl⟩
    have HRW : Hid (∀ o, RowsAt (W1.alloc o) (some ⟨w.heap.size, 0, none⟩) 0 rows) := fun o i hi => absurd hi (Nat.not_lt_zero _)
    have HTW : Hid (∀ o, Lib.TabIs Ybad.prog (W1.alloc o) "internal/strconv.uint64pow10" .u64 Lib.pow10Tab) := fun o => tab_below (hbr.alloc hbr.size o) HTAB.out
    have HC41 : Hid ((W1.alloc (.cells #[.string ⟨#[]⟩, .string ⟨#[]⟩, .slice none 0 0, .slice (some ⟨w.heap.size, 0, none⟩) 0 0, .int .i64 msl, .string ⟨#[]⟩, .slice none 0 0, .slice none 0 0, .string ⟨#[]⟩, .string ⟨#[]⟩, .int .u64 0, .int .i64 0, .pointer none, .string ⟨#[]⟩, .int .u64 0, .int .i64 0, .pointer none, .int .u64 0, .int .i64 0, .pointer none, .string ⟨#[]⟩, .string ⟨#[]⟩, .slice none 0 0] 41)).rangeAt W1.heap.size 0 [.string ⟨#[]⟩, .string ⟨#[]⟩, .slice none 0 0, .slice (some ⟨w.heap.size, 0, none⟩) 0 0, .int .i64 msl, .string ⟨#[]⟩, .slice none 0 0, .slice none 0 0, .string ⟨#[]⟩, .string ⟨#[]⟩, .int .u64 0, .int .i64 0, .pointer none, .string ⟨#[]⟩, .int .u64 0, .int .i64 0, .pointer none, .int .u64 0, .int .i64 0, .pointer none, .string ⟨#[]⟩, .string ⟨#[]⟩, .slice none 0 0]) := range_all W1 _ 41
    go_upto_region 20 with (first | ((with_reducible apply wpList_load_mid (ty := 41) (x := .tmp 10) (cs := [.string ⟨#[]⟩, .string ⟨#[]⟩, .slice none 0 0, .slice (some ⟨w.heap.size, 0, none⟩) 0 0, .int .i64 msl, .string ⟨#[]⟩, .slice none 0 0, .slice none 0 0, .string ⟨#[]⟩, .string ⟨#[]⟩, .int .u64 0, .int .i64 0, .pointer none, .string ⟨#[]⟩, .int .u64 0, .int .i64 0, .pointer none, .int .u64 0, .int .i64 0, .pointer none, .string ⟨#[]⟩, .string ⟨#[]⟩, .slice none 0 0]) (hu := Ybad.underlying41)); rfl; rfl; rfl; exact HC41.out; rfl; exact size41) | (go_at_call 4; refine (inf_any _ msl _ 0 0 rows _ hm1 (by omega) (by rfl) (by rfl) (HRW.out _) (HTW.out _)).mono ?_; rintro e X ⟨I, off, v, xs, rfl, hoff, hinf⟩))
    have hbX : Below w.heap.size w X := (hbr.alloc hbr.size _).trans (hinf.below.mono (by have := hbr.size; simp; omega))
    have HINF : Hid (∃ W0, Inf W0 I off 0 msl rows v xs X) := ⟨_, hinf⟩
    have HOFF : Hid (off = if 0 < msl then 1 else 0) := hoff
    have hIX := hinf.size
    clear hinf hoff HRW HTW hbr
    go_wp2_with fail
    go_loopw [77] (fun i wr => i = .int .i64 0 ∧ wr = X) (fun _ _ => 0)
    case atStart => exact ⟨rfl, rfl⟩
    case round =>
      obtain ⟨rfl, hwr⟩ := hrel
      obtain ⟨Y, rfl⟩ : ∃ W, W = wr := ⟨_, rfl⟩
      subst hwr
      obtain ⟨W0, hinf⟩ := HINF.out
      have y0 := hinf.c0
      have y1 := hinf.c1
      have y2 := hinf.c2
      have y3 := hinf.c3
      have y4 := hinf.c4
      have hp46 := p46
      by_cases hm : 0 < msl
      · obtain rfl : off = 1 := by rw [HOFF.out, if_pos hm]
        obtain ⟨g, cap, rfl, hg1, hg2⟩ := hinf.own.form (by omega)
        obtain ⟨bf, _, hf1, hf2⟩ := hinf.first rfl
        have y5 : Y.cell? ⟨g, 0, none⟩ = some (.pointer (some ⟨bf, 0, none⟩)) := (hinf.own.cellAt 0 (by omega)).trans hf1
        have HF2 : Hid (Txt Y bf ⟨#[109, 97, 120, 83, 105, 103, 76, 105, 102, 101]⟩ ⟨(Lib.decDigits msl.toNat).toArray⟩) := hf2
        clear hinf HINF hf1 hf2
        have hmw : IntKind.u64.wrap msl = msl := wrap_u64 (by omega) (by omega)
        obtain ⟨mu, rfl⟩ := Int.eq_ofNat_of_zero_le (show 0 ≤ msl by omega)
        go_upto_region 33 with fail
        go_region_held3 (fun w' => Below Y.heap.size Y w' ∧ w'.cell? ⟨I, 3, none⟩ = some (.slice (some ⟨g, 0, none⟩) (1 + 0) cap) ∧ w'.cell? ⟨g, 0, none⟩ = some (.pointer (some ⟨bf, 0, none⟩))) (first | assumption | exact off_start y3 y5 | exact off_below (by assumption) (by assumption)) (first | (go_at_call 6; refine (citoa_any _ (by omega) _).mono ?_; rintro e w' ⟨rfl, hb⟩) | (go_at_call 5; refine (ctext_any bf _ _ _ (HF2.out.below (And.left (by assumption)))).mono ?_; rintro e w' ⟨rfl, rfl⟩))
        rename_i hHeld
        obtain ⟨Z, rfl⟩ : ∃ Z, Z = w' := ⟨_, rfl⟩
        have hbZ : Below w.heap.size w Z := hbX.trans (hHeld.1.mono hbX.size)
        clear hb hHeld y0 y1 y2 y4 y5 HF2
        go_wp2_with fail
        go_loopw [151] (fun i wr => i = .int .i64 0 ∧ Below w.heap.size w wr) (fun _ _ => 0)
        case atStart => exact ⟨rfl, hbZ⟩
        case round =>
          obtain ⟨rfl, hbr⟩ := hrel
          go_wp2
          go_ret
          exact ⟨rfl, hbr⟩
      · obtain rfl : off = 0 := by rw [HOFF.out, if_neg hm]
        obtain ⟨va, vc, rfl⟩ : ∃ va vc, v = .slice va 0 vc := by
          rcases hinf.own.2 with ⟨h, _⟩ | ⟨g, cap, cur, h, _⟩
          · exact ⟨_, _, h⟩
          · exact ⟨_, _, h⟩
        clear hinf HINF
        go_upto_region 33 with fail
        go_quiet (fail)
        obtain ⟨Z, hZ⟩ : ∃ Z, Z = Y.drewN nq := ⟨_, rfl⟩
        have hbZ : Below w.heap.size w Z := by rw [hZ]; exact hbX.trans ⟨rfl, rfl, rfl, Nat.le_refl _, fun _ _ => rfl⟩
        rw [← hZ]
        clear hZ y0 y1 y2 y4
        go_wp2_with fail
        go_loopw [151] (fun i wr => i = .int .i64 0 ∧ Below w.heap.size w wr) (fun _ _ => 0)
        case atStart => exact ⟨rfl, hbZ⟩
        case round =>
          obtain ⟨rfl, hbr⟩ := hrel
          go_wp2
          go_ret
          exact ⟨rfl, hbr⟩
end Go.Proofs.YbulkebxyDoor
