import Derived.Test.YbulkebxyDoorRowsLib
import Derived.Deep.CutRange
import Derived.Test.YbulkebxyDoorJoinPos
namespace Go.Proofs.YbulkebxyDoor
open Go.ChangeShapes Go.WideShapes Go.ChangeAt Go.RowKit
set_option linter.unusedVariables false
set_option linter.unusedSimpArgs false

set_option maxRecDepth 100000 in
set_option maxHeartbeats 40000000 in
theorem walk_pos (msl : Int) (b o n c : Nat) (rows : Nat → DsRow) (w : World) (hm0 : -9223372036854775808 ≤ msl) (hm1 : msl ≤ 9223372036854775807) (hn0 : 0 < n) (hm : 0 < msl) (hn : n ≤ 65536) (hrow : RowsAt w (some ⟨b, o, none⟩) n rows) (htab : Lib.TabIs Ybad.prog w "internal/strconv.uint64pow10" .u64 Lib.pow10Tab) :
    Calls Ybad.prog 3 #[.int .i64 msl, .slice (some ⟨b, o, none⟩) n c] w fun e w' => e = .returned (.bool true) ∧ Below w.heap.size w w' := by
  have HTAB : Hid (Lib.TabIs Ybad.prog w "internal/strconv.uint64pow10" .u64 Lib.pow10Tab) := htab
  have HROW : Hid (RowsAt w (some ⟨b, o, none⟩) n rows) := hrow
  clear htab hrow
  have hp22 := p22
  obtain ⟨i0, hi, hz0, hz1, hz2⟩ := info_parts info30
  go_enter Ybad.func3, Ybad.ntmps3
  go_upto_region 8 with (first | (at_make; refine wpList_make_full _ rfl (.tmp 26) (.tmp 26) 23 rfl w.heap.size 30 i0 _ 8 Ybad.underlying23 hi hz0 hz1 _ _ _ _ n rfl rfl rfl rfl (by rw [hz2]; omega) (by unfold maxLen; omega) (Nat.le_refl _) ?_; intro wA hownA hgrowA) | (at_make; refine wpList_make_full _ rfl (.tmp 29) (.tmp 29) 23 rfl wA.heap.size 30 i0 _ 8 Ybad.underlying23 hi hz0 hz1 _ _ _ _ n rfl rfl rfl rfl (by rw [hz2]; omega) (by unfold maxLen; omega) (Nat.le_refl _) ?_; intro wB hownB hgrowB))
  have hbA : Below w.heap.size w wA := (Below.refl _ _).grown hgrowA (Nat.le_refl _) (by intro k h; cases h)
  have hsA : w.heap.size < wA.heap.size := (hownA.lt _ rfl).2
  have hbB : Below wA.heap.size wA wB := (Below.refl _ _).grown hgrowB (Nat.le_refl _) (by intro k h; cases h)
  have HTWO : Hid (Two w.heap.size wA.heap.size n 0 rows wB) := ⟨by omega, Nat.lt_of_lt_of_le hsA hbB.size, (hownB.lt _ rfl).2, there_below (there_of hownA) hbB hsA, there_of hownB, fun i hi => absurd hi (Nat.not_lt_zero _), fun i hi => absurd hi (Nat.not_lt_zero _)⟩
  have hbW : Below w.heap.size w wB := hbA.trans (hbB.mono (by omega))
  clear hownA hgrowA hownB hgrowB hbB hbA hi hz0 hz1 hz2 i0
  obtain ⟨R, HRR⟩ : ∃ R, Hid (R = w.heap.size) := ⟨_, rfl⟩
  go_wp2_with fail
  go_loopw [33] (fun i wr => ∃ k : Nat, k ≤ n ∧ i = .int .i64 k ∧ Two w.heap.size wA.heap.size n k rows wr ∧ Below w.heap.size w wr) (fun i _ => n - (intOf i).toNat)
  case atStart => exact ⟨0, Nat.zero_le _, rfl, HTWO.out, hbW⟩
  case round =>
    obtain ⟨k, hk, rfl, htwo, hbr⟩ := hrel
    clear hbW HTWO
    by_cases hlt : k < n
    · obtain ⟨hok, b', o', e, hr⟩ := (HROW.out.below hbr) k hlt
      cases e
      have HR : Hid (wr.rangeAt b (o + k * 8) (rowCells (rows k))) := hr
      have HTW : Hid (Two w.heap.size wA.heap.size n k rows wr) := htwo
      obtain ⟨hne, s1, s2, th1, th2, _, _⟩ := htwo
      have HT1 : Hid (wr.there w.heap.size 0 (n * 8)) := th1
      have HT2 : Hid (wr.there wA.heap.size 0 (n * 8)) := th2
      clear hr th1 th2 hok
      generalize hr : rows k = r at *
      have Hr : Hid (rows k = r) := hr
      clear hr
      have hb2 : Below wr.heap.size wr ((wr.alloc (.cells #[.int .u16 r.kt, .int .u8 r.alg, .int .u8 r.dt, .string r.dg, .int .u16 r.fl, .int .u8 r.pr, .int .u8 r.ka, .string r.pk] 26)).alloc (.cells #[.int .u16 r.kt, .int .u8 r.alg, .int .u8 r.dt, .string r.dg, .int .u16 r.fl, .int .u8 r.pr, .int .u8 r.ka, .string r.pk] 30)) := ((Below.refl _ _).alloc (Nat.le_refl _) _).alloc (by simp) _
      have HTa : Hid (((wr.alloc (.cells #[.int .u16 r.kt, .int .u8 r.alg, .int .u8 r.dt, .string r.dg, .int .u16 r.fl, .int .u8 r.pr, .int .u8 r.ka, .string r.pk] 26)).alloc (.cells #[.int .u16 r.kt, .int .u8 r.alg, .int .u8 r.dt, .string r.dg, .int .u16 r.fl, .int .u8 r.pr, .int .u8 r.ka, .string r.pk] 30)).there w.heap.size (k * 8) 8) := there_sub (there_below HT1.out hb2 s1) hlt
      have HTb : Hid ((((wr.alloc (.cells #[.int .u16 r.kt, .int .u8 r.alg, .int .u8 r.dt, .string r.dg, .int .u16 r.fl, .int .u8 r.pr, .int .u8 r.ka, .string r.pk] 26)).alloc (.cells #[.int .u16 r.kt, .int .u8 r.alg, .int .u8 r.dt, .string r.dg, .int .u16 r.fl, .int .u8 r.pr, .int .u8 r.ka, .string r.pk] 30)).setCells w.heap.size (k * 8) [.int .u16 r.kt, .int .u8 r.alg, .int .u8 r.dt, .string r.dg, .int .u16 r.fl, .int .u8 r.pr, .int .u8 r.ka, .string r.pk]).there wA.heap.size (k * 8) 8) := World.there_setCells (there_sub (there_below HT2.out hb2 s2) hlt) _ _ _
      have HVa : Hid (((wr.alloc (.cells #[.int .u16 r.kt, .int .u8 r.alg, .int .u8 r.dt, .string r.dg, .int .u16 r.fl, .int .u8 r.pr, .int .u8 r.ka, .string r.pk] 26)).alloc (.cells #[.int .u16 r.kt, .int .u8 r.alg, .int .u8 r.dt, .string r.dg, .int .u16 r.fl, .int .u8 r.pr, .int .u8 r.ka, .string r.pk] 30)).rangeAt (wr.heap.size + 1) 0 [.int .u16 r.kt, .int .u8 r.alg, .int .u8 r.dt, .string r.dg, .int .u16 r.fl, .int .u8 r.pr, .int .u8 r.ka, .string r.pk]) := range_new _ _
      have HVb : Hid ((((wr.alloc (.cells #[.int .u16 r.kt, .int .u8 r.alg, .int .u8 r.dt, .string r.dg, .int .u16 r.fl, .int .u8 r.pr, .int .u8 r.ka, .string r.pk] 26)).alloc (.cells #[.int .u16 r.kt, .int .u8 r.alg, .int .u8 r.dt, .string r.dg, .int .u16 r.fl, .int .u8 r.pr, .int .u8 r.ka, .string r.pk] 30)).setCells w.heap.size (k * 8) [.int .u16 r.kt, .int .u8 r.alg, .int .u8 r.dt, .string r.dg, .int .u16 r.fl, .int .u8 r.pr, .int .u8 r.ka, .string r.pk]).rangeAt (wr.heap.size + 1) 0 [.int .u16 r.kt, .int .u8 r.alg, .int .u8 r.dt, .string r.dg, .int .u16 r.fl, .int .u8 r.pr, .int .u8 r.ka, .string r.pk]) := World.rangeAt_setCells_apart HVa.out _ _ _ (.inl (by omega))
      clear hb2
      go_wp2_with (first | ((with_reducible apply wpList_load_mid (ty := 26) (x := .tmp 38) (cs := [.int .u16 r.kt, .int .u8 r.alg, .int .u8 r.dt, .string r.dg, .int .u16 r.fl, .int .u8 r.pr, .int .u8 r.ka, .string r.pk]) (hu := Ybad.underlying26)); rfl; rfl; rfl; exact HR.out; rfl; exact size26) | ((with_reducible apply wpList_load_mid (ty := 30) (x := .tmp 9) (cs := [.int .u16 r.kt, .int .u8 r.alg, .int .u8 r.dt, .string r.dg, .int .u16 r.fl, .int .u8 r.pr, .int .u8 r.ka, .string r.pk]) (hu := Ybad.underlying30)); rfl; rfl; rfl; (first | (with_reducible exact HVa.out) | (with_reducible exact HVb.out)); rfl; exact size30) | ((with_reducible apply wpList_store_mid (ty := 30) (x := .tmp 61) (y := .tmp 60)); rfl; rfl; rfl; rfl; exact HTa.out; exact size30; simp [Value.oneCell']) | ((with_reducible apply wpList_store_mid (ty := 30) (x := .tmp 65) (y := .tmp 64)); rfl; rfl; rfl; rfl; exact HTb.out; exact size30; simp [Value.oneCell']))
      go_roundw
      case rel => exact ⟨k + 1, by omega, by go_num, two_round' _ _ Hr.out hlt HTW.out, below_setCells (below_setCells ((hbr.alloc hbr.size _).alloc (by have := hbr.size; simp; omega) _) (Nat.le_refl _) _ _) (by omega) _ _⟩
      case measure => simp [intOf]; omega
    · have hkn : n = k := by omega
      subst hkn
      obtain ⟨W1, rfl⟩ : ∃ W, W = wr := ⟨_, rfl⟩
      have HTWO : Hid (Two w.heap.size wA.heap.size n n rows W1) := htwo
      have HRW : Hid (∀ o, RowsAt (W1.alloc o) (some ⟨w.heap.size, 0, none⟩) n rows) := fun o => rowsAt_two' (htwo.below ((Below.refl _ _).alloc (Nat.le_refl _) o)) (fun i hi => (HROW.out i hi).1)
      have HTW : Hid (∀ o, Lib.TabIs Ybad.prog (W1.alloc o) "internal/strconv.uint64pow10" .u64 Lib.pow10Tab) := fun o => tab_below (hbr.alloc hbr.size o) HTAB.out
      clear htwo
      have HC41 : Hid ((W1.alloc (.cells #[.string ⟨#[]⟩, .string ⟨#[]⟩, .slice none 0 0, .slice (some ⟨w.heap.size, 0, none⟩) n n, .int .i64 msl, .string ⟨#[]⟩, .slice none 0 0, .slice none 0 0, .string ⟨#[]⟩, .string ⟨#[]⟩, .int .u64 0, .int .i64 0, .pointer none, .string ⟨#[]⟩, .int .u64 0, .int .i64 0, .pointer none, .int .u64 0, .int .i64 0, .pointer none, .string ⟨#[]⟩, .string ⟨#[]⟩, .slice none 0 0] 41)).rangeAt W1.heap.size 0 [.string ⟨#[]⟩, .string ⟨#[]⟩, .slice none 0 0, .slice (some ⟨w.heap.size, 0, none⟩) n n, .int .i64 msl, .string ⟨#[]⟩, .slice none 0 0, .slice none 0 0, .string ⟨#[]⟩, .string ⟨#[]⟩, .int .u64 0, .int .i64 0, .pointer none, .string ⟨#[]⟩, .int .u64 0, .int .i64 0, .pointer none, .int .u64 0, .int .i64 0, .pointer none, .string ⟨#[]⟩, .string ⟨#[]⟩, .slice none 0 0]) := range_all W1 _ 41
      go_upto_region 20 with (first | ((with_reducible apply wpList_load_mid (ty := 41) (x := .tmp 10) (cs := [.string ⟨#[]⟩, .string ⟨#[]⟩, .slice none 0 0, .slice (some ⟨w.heap.size, 0, none⟩) n n, .int .i64 msl, .string ⟨#[]⟩, .slice none 0 0, .slice none 0 0, .string ⟨#[]⟩, .string ⟨#[]⟩, .int .u64 0, .int .i64 0, .pointer none, .string ⟨#[]⟩, .int .u64 0, .int .i64 0, .pointer none, .int .u64 0, .int .i64 0, .pointer none, .string ⟨#[]⟩, .string ⟨#[]⟩, .slice none 0 0]) (hu := Ybad.underlying41)); rfl; rfl; rfl; exact HC41.out; rfl; exact size41) | (go_at_call 4; refine (inf_any _ msl _ n n rows _ hm1 hn (by rfl) (by rfl) (HRW.out _) (HTW.out _)).mono ?_; rintro e X ⟨I, off, v, xs, rfl, hoff, hinf⟩))
      have hbX : Below w.heap.size w X := (hbr.alloc hbr.size _).trans (hinf.below.mono (by have := hbr.size; simp; omega))
      have HTX : Hid (Two w.heap.size wA.heap.size n n rows X) := (HTWO.out.below ((Below.refl _ _).alloc (Nat.le_refl _) _)).below hinf.below
      have HINF : Hid (∃ W0, Inf W0 I off n msl rows v xs X) := ⟨_, hinf⟩
      have H1 : Hid (off = if 0 < msl then 1 else 0) := hoff
      have hIX := hinf.size
      clear hinf hoff HTWO HRW HTW hbr
      go_wp2_with fail
      go_loopw [77] (fun i wr => ∃ k q : Nat, k ≤ n ∧ i = .int .i64 k ∧ wr = X.drewN q) (fun i _ => n - (intOf i).toNat)
      case atStart => exact ⟨0, 0, Nat.zero_le _, rfl, rfl⟩
      case round =>
        obtain ⟨k, q, hk, rfl, hwr⟩ := hrel
        have HWR : Hid (wr = X.drewN q) := hwr
        by_cases hlt : k < n
        · obtain ⟨hne, s1, s2, th1, th2, r1, r2⟩ := HTX.out
          have q1 := r1 k hlt
          have q2 := r2 k hlt
          generalize rows k = r at q1 q2
          have e0 : wr.cell? ⟨w.heap.size, k * 8, none⟩ = some (.int .u16 r.kt) := by subst hwr; exact q1 0 _ rfl
          have e1 : wr.cell? ⟨w.heap.size, k * 8 + 1, none⟩ = some (.int .u8 r.alg) := by subst hwr; exact q1 1 _ rfl
          have e2 : wr.cell? ⟨w.heap.size, k * 8 + 2, none⟩ = some (.int .u8 r.dt) := by subst hwr; exact q1 2 _ rfl
          have e3 : wr.cell? ⟨w.heap.size, k * 8 + 3, none⟩ = some (.string r.dg) := by subst hwr; exact q1 3 _ rfl
          have e4 : wr.cell? ⟨w.heap.size, k * 8 + 4, none⟩ = some (.int .u16 r.fl) := by subst hwr; exact q1 4 _ rfl
          have e5 : wr.cell? ⟨w.heap.size, k * 8 + 5, none⟩ = some (.int .u8 r.pr) := by subst hwr; exact q1 5 _ rfl
          have e6 : wr.cell? ⟨w.heap.size, k * 8 + 6, none⟩ = some (.int .u8 r.ka) := by subst hwr; exact q1 6 _ rfl
          have e7 : wr.cell? ⟨w.heap.size, k * 8 + 7, none⟩ = some (.string r.pk) := by subst hwr; exact q1 7 _ rfl
          have f0 : wr.cell? ⟨wA.heap.size, k * 8, none⟩ = some (.int .u16 r.kt) := by subst hwr; exact q2 0 _ rfl
          have f1 : wr.cell? ⟨wA.heap.size, k * 8 + 1, none⟩ = some (.int .u8 r.alg) := by subst hwr; exact q2 1 _ rfl
          have f2 : wr.cell? ⟨wA.heap.size, k * 8 + 2, none⟩ = some (.int .u8 r.dt) := by subst hwr; exact q2 2 _ rfl
          have f3 : wr.cell? ⟨wA.heap.size, k * 8 + 3, none⟩ = some (.string r.dg) := by subst hwr; exact q2 3 _ rfl
          have f4 : wr.cell? ⟨wA.heap.size, k * 8 + 4, none⟩ = some (.int .u16 r.fl) := by subst hwr; exact q2 4 _ rfl
          have f5 : wr.cell? ⟨wA.heap.size, k * 8 + 5, none⟩ = some (.int .u8 r.pr) := by subst hwr; exact q2 5 _ rfl
          have f6 : wr.cell? ⟨wA.heap.size, k * 8 + 6, none⟩ = some (.int .u8 r.ka) := by subst hwr; exact q2 6 _ rfl
          have f7 : wr.cell? ⟨wA.heap.size, k * 8 + 7, none⟩ = some (.string r.pk) := by subst hwr; exact q2 7 _ rfl
          have hkI : (k : Int) < n := by omega
          clear hwr q1 q2 r1 r2 th1 th2
          go_wp2
          go_quiet (fail)
          go_wp2
          go_roundw
          case rel => exact ⟨k + 1, q + nq, by omega, by go_num, by rw [HWR.out, World.drewN_drewN]⟩
          case measure => simp [intOf]; omega
        · have hkn : n = k := by omega
          subst hkn
          obtain ⟨Y, rfl⟩ : ∃ W, W = wr := ⟨_, rfl⟩
          have HINY : Hid (∃ W0, Inf W0 I off n msl rows v xs Y) := by
            obtain ⟨W0, h⟩ := HINF.out
            rw [hwr]
            exact ⟨W0, inf_drewN h q⟩
          have hbY : Below w.heap.size w Y := by rw [hwr]; exact hbX.trans ⟨rfl, rfl, rfl, Nat.le_refl _, fun _ _ => rfl⟩
          clear hwr HWR HINF HTX hbX hIX
          obtain ⟨W0, hinf⟩ := HINY.out
          obtain ⟨g, cap, rfl, hg1, hg2⟩ := hinf.own.form (by omega)
          have y0 := hinf.c0
          have y1 := hinf.c1
          have y2 := hinf.c2
          have y3 := hinf.c3
          have y4 := hinf.c4
          have hIY := hinf.size
          have HXS : Hid (∀ i u, xs[i]? = some u → Y.cell? ⟨g, i, none⟩ = some u) := fun i u hu => by
            have hl := hinf.own.1
            have hi : i < off + n := by have := (List.getElem?_eq_some_iff.1 hu).1; omega
            exact (hinf.own.cellAt i (by omega)).trans hu
          have HEL : Hid (∀ i, i < n → ∃ b, xs[off + i]? = some (.pointer (some ⟨b, 0, none⟩)) ∧ DsEl (fun b => b < Y.heap.size) Y b (rows i)) := fun i hi => by
            obtain ⟨b, h1, h2⟩ := hinf.els i hi
            exact ⟨b, h1, h2.same (fun _ _ => rfl) (fun x hx => hx.2.1)⟩
          have HFS : Hid (off = 1 → ∃ b, xs[0]? = some (.pointer (some ⟨b, 0, none⟩)) ∧ Txt Y b ⟨#[109, 97, 120, 83, 105, 103, 76, 105, 102, 101]⟩ ⟨(Lib.decDigits msl.toNat).toArray⟩) := fun h => by
            obtain ⟨b, _, h1, h2⟩ := hinf.first h
            exact ⟨b, h1, h2⟩
          clear hinf HINY
          have hp46 := p46
          obtain rfl : off = 1 := by rw [H1.out, if_pos hm]
          obtain ⟨bf, hf1, hf2⟩ := HFS.out rfl
          have y5 := HXS.out 0 _ hf1
          have HF2 : Hid (Txt Y bf ⟨#[109, 97, 120, 83, 105, 103, 76, 105, 102, 101]⟩ ⟨(Lib.decDigits msl.toNat).toArray⟩) := hf2
          clear hf1 hf2 HFS
          have hmw : IntKind.u64.wrap msl = msl := wrap_u64 (by omega) (by omega)
          obtain ⟨mu, rfl⟩ := Int.eq_ofNat_of_zero_le (show 0 ≤ msl by omega)
          go_upto_region 33 with fail
          have hx1 : (0 : Int) < ((1 + n : Nat) : Int) := by omega
          have hx2 : (0 : Int) < 1 + (n : Int) := by omega
          have hx3 : 0 < 1 + n := by omega
          go_region_held3 (fun w' => Below Y.heap.size Y w' ∧ w'.cell? ⟨I, 3, none⟩ = some (.slice (some ⟨g, 0, none⟩) (1 + n) cap) ∧ w'.cell? ⟨g, 0, none⟩ = some (.pointer (some ⟨bf, 0, none⟩))) (first | assumption | exact off_start y3 y5 | exact off_below (by assumption) (by assumption)) (first | (go_at_call 6; refine (citoa_any _ (by omega) _).mono ?_; rintro e w' ⟨rfl, hb⟩) | (go_at_call 5; refine (ctext_any bf _ _ _ (HF2.out.below (And.left (by assumption)))).mono ?_; rintro e w' ⟨rfl, rfl⟩))
          rename_i hHeld
          obtain ⟨Z, rfl⟩ : ∃ Z, Z = w' := ⟨_, rfl⟩
          have hbZ : Below Y.heap.size Y Z := hHeld.1
          clear hb hHeld hx1 hx2 hx3 y0 y1 y2 y4 y5 HF2
          go_wp2_with fail
          have z3 : ∀ wz, Below Y.heap.size Y wz → wz.cell? ⟨I, 3, none⟩ = some (.slice (some ⟨g, 0, none⟩) (1 + n) cap) := fun wz hz => (hz.cell (World.block_lt_of_cell? Y _ y3)).trans y3
          have HZ3 : Hid (∀ wz, Below Y.heap.size Y wz → wz.cell? ⟨I, 3, none⟩ = some (.slice (some ⟨g, 0, none⟩) (1 + n) cap)) := z3
          clear z3 y3
          go_loopw [151] (fun i wr => ∃ k : Nat, k ≤ n ∧ i = .int .i64 k ∧ Below Y.heap.size Y wr) (fun i _ => n - (intOf i).toNat)
          case atStart => exact ⟨0, Nat.zero_le _, rfl, hbZ⟩
          case round =>
            obtain ⟨k, hk, rfl, hbr⟩ := hrel
            by_cases hlt : k < n
            · obtain ⟨hok, b', o', e, hr⟩ := ((HROW.out.below hbY).below' hbr) k hlt
              cases e
              obtain ⟨be, he1, he2⟩ := HEL.out k hlt
              have HEL2 : Hid (DsEl (fun x => x < Y.heap.size) wr be (rows k)) := he2.same (fun x hx => hbr.block x hx) (fun x hx => hx)
              have he3 : wr.cell? ⟨g, 1 + k, none⟩ = some (.pointer (some ⟨be, 0, none⟩)) := (hbr.cell (World.block_lt_of_cell? Y _ (HXS.out _ _ he1))).trans (HXS.out _ _ he1)
              have z3 := HZ3.out wr hbr
              have HR : Hid (wr.rangeAt b (o + k * 8) (rowCells (rows k))) := hr
              clear hr he1 he2
              refine wp_mono (round3_pos b o n c I g cap k be Y.heap.size (rows k) wr hlt hn hok HR HEL2 hbr.size he3 z3) ?_
              intro ex a' w' h
              cases ex
              case normal =>
                obtain ⟨hp, hb⟩ := h
                refine hp.elim (Q := fun a' => Exit.then _ _ .normal a' w') ?_
                intro u4 u14 u15 u16 u17 u18 u19 u152 u153 u154 u155 u156 u157 u158 u159 u160 u161 u162 u163 u164 u165 u166 u167 u168 u169 u170 u171 u172 u173 u174 u175 u176 u177 u178 u179 u180 u181 u182 u183 u184 u185 u186 u187 u188 u189 u190 u191 u192 u193 u194 u195 u196 u197 u198 u199 u200 u201 u202 u203 u204 u205 u206 u207 u208 u209 u210 u211 u212 u213 u214 u215 u216 u217 u218 u219 u220 u221 u222 u223 u224 u225 u226 u227 u228 u229 u230 u231 u232 u233 u234 u235 u236 u237 u238 u239 u240 u241 u242 u243 u244 u245 u246 u247 u248 u249 u250 u251 u252 u253 u254 u255 u256 u257 u258 u259 u260 u261 u262 u263 u264 u265 u266 u267 u268 u269 u270 u271 u272 u273 u274 u275 u276 u277 u278 u279 u280 u281 u282 u283 u284 u285 u286 u287 u288 u289 u290 u291 u292 u293 u294 u295 u296 u297 u298 u299 u300 u301 u302 u303 u304 u305 u306 u307 u308 u309 u310 u311 u312 u313 u314 u315 u316 u317 u318 u319 u320 u321 u322 u323 u324 u325 u326 u327 u328 u329 u330 u331 u332 u333 u334 u335 u336 u337 u338 u339 u340 u341 u342 u343 u344 u345 u346 u347 u348 u349 u350 u351 u352 u353 u354 u355 u356 u357 u358 u359 u360 u361 u362 u363 u364 u365 u366 u367 u368 u369 u370 u371 u372 u373 u374 u375 u376
                show (∃ _, _) ∧ _
                go_roundw
                case rel =>
                  (repeat apply Exists.intro)
                  refine ⟨?_, rfl⟩
                  exact ⟨k + 1, by omega, by go_num, hbr.trans (hb.mono hbr.size)⟩
                case measure => simp [intOf]; omega
              all_goals exact absurd h id
            · go_wp2
              go_ret
              exact ⟨rfl, hbY.trans (hbr.mono hbY.size)⟩
          
end Go.Proofs.YbulkebxyDoor
