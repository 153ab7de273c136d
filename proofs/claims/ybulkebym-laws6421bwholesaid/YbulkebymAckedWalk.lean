import Derived.Test.YbulkebymAcked
namespace Go.Proofs.Ybulkebym.lawS6421BWhole
open Go.ChangeShapes Go.WideShapes Go.ChangeAt Go.RowKit
set_option linter.unusedVariables false

def sumL (L : Nat → Nat) : Nat → Nat
  | 0 => 0
  | k + 1 => sumL L k + L k
theorem le_sumL (L : Nat → Nat) : ∀ k i, i < k → L i ≤ sumL L k
  | 0, i, h => absurd h (Nat.not_lt_zero _)
  | k + 1, i, h => by
    by_cases e : i = k
    · subst e; simp [sumL]
    · have := le_sumL L k i (by omega)
      simp [sumL]; omega

theorem U64s.grow {w w' : World} {a : Option Addr} {n : Nat} {f : Nat → Int} {P : Nat → Prop} (h : U64s P w a n f) (hb : Below w.heap.size w w') : U64s P w' a n f := fun j hj => by
  obtain ⟨b, o, e, hp, hc, r⟩ := h j hj
  exact ⟨b, o, e, hp, (hb.cell (World.block_lt_of_cell? w _ hc)).trans hc, r⟩
theorem Stamps.grow {P : Nat → Prop} {w w' : World} {a : Option Addr} {n : Nat} {A : Nat → Option Addr} {L C : Nat → Nat} {F : Nat → Nat → Int} (h : Stamps P w a n A L C F) (hb : Below w.heap.size w w') : Stamps P w' a n A L C F := fun i hi => by
  obtain ⟨⟨b, o, e, hc⟩, hu⟩ := h i hi
  exact ⟨⟨b, o, e, (hb.cell (World.block_lt_of_cell? w _ hc)).trans hc⟩, hu.grow hb⟩

theorem Stamps.below {w w' : World} {a : Option Addr} {n : Nat} {A : Nat → Option Addr} {L C : Nat → Nat} {F : Nat → Nat → Int} (h : Stamps (fun b => b < w.heap.size) w a n A L C F) (hb : Below w.heap.size w w') : Stamps (fun b => b < w.heap.size) w' a n A L C F := h.grow hb

theorem q82 (w : World) (a : Option Addr) (n c n' c' : Nat) : (binOp .eql 82 (.slice a n c) (.slice none n' c')).run Yba.prog w = .ok (.bool a.isNone) w := Lib.run_eql_slice_nil w _ _ a n c n' c' Yba.underlying82
theorem q84 (w : World) (a : Option Addr) (n c n' c' : Nat) : (binOp .eql 84 (.slice a n c) (.slice none n' c')).run Yba.prog w = .ok (.bool a.isNone) w := Lib.run_eql_slice_nil w _ _ a n c n' c' Yba.underlying84
theorem p82 (w : World) (a : Option Addr) (n c n' c' : Nat) : (binOp .neq 82 (.slice a n c) (.slice none n' c')).run Yba.prog w = .ok (.bool (!a.isNone)) w := run_neq_slice_nil_any w _ _ a n c n' c' Yba.underlying82
theorem info85 : (Yba.prog.info? 85).map (fun i => (i.zero, i.size, i.bytes)) = some (some (.slice none 0 0), 1, 24) := by kernel_rfl

/-- The copies so far: in block N. -/
def Copies (N : Nat) (wr : World) (k : Nat) (A : Nat → Option Addr) (L : Nat → Nat) (F : Nat → Nat → Int) : Prop :=
  ∀ i, i < k → ∃ a' c', wr.cell? ⟨N, i, none⟩ = some (.slice a' (L i) c') ∧ a'.isNone = (A i).isNone ∧ U64s (fun b => N < b) wr a' (L i) (F i)

/-- What 'ac' is behind its 'if'. -/
def AcAt (w wx : World) (n : Nat) (a0 : Option Addr) (A : Nat → Option Addr) (L : Nat → Nat) (F : Nat → Nat → Int) (v : Value) : Prop :=
  ∃ (ac : Option Addr) (cc : Nat) (A' : Nat → Option Addr) (C' : Nat → Nat), v = .slice ac n cc ∧ ac.isNone = a0.isNone ∧ Stamps (fun _ => True) wx ac n A' L C' F ∧ (∀ i, i < n → (A' i).isNone = (A i).isNone) ∧ Below w.heap.size w wx

theorem acAt_of {w wx : World} {N n cc : Nat} {a0 : Option Addr} {A : Nat → Option Addr} {L : Nat → Nat} {F : Nat → Nat → Int} (h : Copies N wx n A L F) (ha : a0.isNone = false) (hb : Below w.heap.size w wx) : AcAt w wx n a0 A L F (.slice (some ⟨N, 0, none⟩) n cc) := by
  refine ⟨some ⟨N, 0, none⟩, cc, fun i => if h' : i < n then Classical.choose (h i h') else none, fun i => if h' : i < n then Classical.choose (Classical.choose_spec (h i h')) else 0, rfl, by simp [ha], fun i hi => ?_, fun i hi => ?_, hb⟩
  · have hsp := Classical.choose_spec (Classical.choose_spec (h i hi))
    simp only [hi, dif_pos]
    exact ⟨⟨N, 0, rfl, by rw [Nat.zero_add]; exact hsp.1⟩, hsp.2.2.mono fun _ _ => trivial⟩
  · have hsp := Classical.choose_spec (Classical.choose_spec (h i hi))
    simp only [hi, dif_pos]
    exact hsp.2.1

theorem Copies.step {N k : Nat} {wr w' : World} {A : Nat → Option Addr} {L : Nat → Nat} {F : Nat → Nat → Int} (h : Copies N wr k A L F) (hb : Below wr.heap.size wr w') (hN : N < wr.heap.size) {a' : Option Addr} {c' : Nat} {old : Value}
    (hold : w'.cell? ⟨N, k, none⟩ = some old) (hnil : a'.isNone = (A k).isNone) (hu : U64s (fun b => wr.heap.size ≤ b) w' a' (L k) (F k)) : Copies N (w'.setCell ⟨N, k, none⟩ (.slice a' (L k) c')) (k + 1) A L F := by
  have hset : ∀ {P : Nat → Prop} {a : Option Addr} {n : Nat} {f : Nat → Int} {v : Value}, U64s P w' a n f → (∀ b, P b → N < b) → U64s (fun b => N < b) (w'.setCell ⟨N, k, none⟩ v) a n f := by
    intro P a n f v hU hP j hj
    obtain ⟨b, o, e, hp, hc, r⟩ := hU j hj
    have hne := hP b hp
    refine ⟨b, o, e, hne, ?_, r⟩
    rw [World.cell?_setCell_other _ _ _ _ (fun e => by have := congrArg Addr.block e; simp only at this; omega)]
    exact hc
  intro i hi
  by_cases e : i = k
  · subst e
    exact ⟨a', c', World.cell?_setCell_same _ _ _ hold, hnil, hset hu (fun b hb => by omega)⟩
  · obtain ⟨x, c, h1, h2, h3⟩ := h i (by omega)
    refine ⟨x, c, ?_, h2, hset (h3.grow hb) (fun b hb => hb)⟩
    rw [World.cell?_setCell_other _ _ _ _ (fun e' => by have := congrArg Addr.off e'; simp only at this; omega)]
    exact (hb.cell (by exact hN)).trans h1

theorem thereAt {w w' : World} {N k n : Nat} (h : w.there N 0 n) (hb : Below w.heap.size w w') (hN : N < w.heap.size) (hk : k < n) : (∃ v, w'.cell? ⟨N, k, none⟩ = some v) ∧ w'.frozen? ⟨N, k, none⟩ = false := by
  have := h k hk
  simp only [Nat.zero_add] at this
  obtain ⟨v, hv⟩ := Option.isSome_iff_exists.1 this.1
  exact ⟨⟨v, (hb.cell (by exact hN)).trans hv⟩, (hb.frozen (by exact hN)).trans this.2⟩
theorem thereBelow {w w' : World} {N n : Nat} (h : w.there N 0 n) (hb : Below w.heap.size w w') (hN : N < w.heap.size) : w'.there N 0 n := by
  intro j hj
  have := h j hj
  rw [hb.cell (by exact hN), hb.frozen (by exact hN)]
  exact this

set_option maxRecDepth 100000 in
set_option maxHeartbeats 2000000 in
theorem walk (a0 a1 : Option Addr) (n c0 m c1 : Nat) (A : Nat → Option Addr) (L C : Nat → Nat) (F : Nat → Nat → Int) (g : Nat → Int) (w : World)
    (hs : Stamps (fun b => b < w.heap.size) w a0 n A L C F) (ht : U64s (fun b => b < w.heap.size) w a1 m g) (hnil : a0 = none → n = 0) (hn : n ≤ 140737488355328) (hm : m ≤ 140737488355328) (hL : ∀ i, i < n → L i ≤ 140737488355328) :
    Calls Yba.prog 4 #[.slice a0 n c0, .slice a1 m c1] w fun e w' => e = .returned (.bool true) ∧ Below w.heap.size w w' := by
  have HS : Hid (Stamps (fun b => b < w.heap.size) w a0 n A L C F) := hs
  have HT : Hid (U64s (fun b => b < w.heap.size) w a1 m g) := ht
  have HL : Hid (∀ i, i < n → L i ≤ 140737488355328) := hL
  have HNIL : Hid (a0 = none → n = 0) := hnil
  clear hs ht hL hnil
  go_enter Yba.func4, Yba.ntmps4
  go_wp2
  go_loop [5, 6] (fun t i => ∃ k : Nat, k ≤ n ∧ i = .int .i64 k ∧ t = .int .i64 ((m : Int) + n + sumL L k) ∧ (k = 0 ∨ m + n + sumL L k ≤ 1048576)) (fun _ i => n - (intOf i).toNat)
  case atStart => exact ⟨0, Nat.zero_le _, rfl, by simp [sumL], .inl rfl⟩
  case round =>
    obtain ⟨k, hk, rfl, rfl, hor⟩ := hrel
    have hsk : sumL L k ≤ 1048576 := by rcases hor with rfl | h; simp [sumL]; omega
    have HOR : Hid (k = 0 ∨ m + n + sumL L k ≤ 1048576) := hor
    clear hor
    by_cases hlt : k < n
    · obtain ⟨⟨b, o, rfl, hc⟩, hu⟩ := HS.out k hlt
      have hLk := HL.out k hlt
      clear hu
      by_cases hbig : m + n + sumL L k + L k ≤ 1048576
      · go_wp2
        go_round
        case rel => exact ⟨k + 1, by omega, by go_num, by simp only [sumL]; go_num, .inr (by simp only [sumL]; omega)⟩
        case measure => simp [intOf]; omega
      · go_wp2
        go_ret
        exact ⟨rfl, Below.refl _ _⟩
    · have hkn : n = k := by omega
      subst hkn
      by_cases hbig : m + n + sumL L n ≤ 1048576
      · have hLs : Hid (∀ i, i < n → L i ≤ 1048576) := fun i hi => by have := le_sumL L n i hi; omega
        clear HL HOR
        have hq82 := q82
        have hq84 := q84
        have hp82 := p82
        go_upto_if 38 with fail
        go_cut [7] (fun v wx => AcAt w wx n a0 A L F v)
        case first =>
          cases a0 with
          | none =>
            obtain rfl := HNIL.out rfl
            go_wp2
            go_meet
            case rel => exact ⟨none, 0, fun _ => none, fun _ => 0, rfl, rfl, fun i hi => absurd hi (Nat.not_lt_zero _), fun i hi => absurd hi (Nat.not_lt_zero _), Below.refl _ _⟩
          | some x0 =>
            obtain ⟨i0, hi, hz0, hz1, hz2⟩ := info_parts info85
            go_wp2_with (at_make; refine wpList_make_full _ rfl _ _ 84 rfl w.heap.size 85 i0 _ 1 Yba.underlying84 hi hz0 hz1 _ _ _ _ n rfl rfl rfl rfl (by rw [hz2]; omega) (by unfold maxLen; omega) (Nat.le_refl _) ?_; intro wA hown hgrow)
            have hth0 : wA.there w.heap.size 0 n := by
              intro j hj
              rw [Nat.zero_add, hown.cellAt j (by omega)]
              refine ⟨?_, hown.frozenAt j⟩
              rw [List.getElem?_eq_getElem (by rw [hown.1]; omega)]
              rfl
            have hN0 : w.heap.size < wA.heap.size := (hown.lt _ rfl).2
            have hbA : Below w.heap.size w wA := (Below.refl _ _).grown hgrow (Nat.le_refl _) (by intro k h; cases h)
            have HTH0 : Hid (wA.there w.heap.size 0 n) := hth0
            clear hown hgrow hi hz0 hz1 hz2 i0 hth0
            go_loopw [8] (fun i wr => ∃ k : Nat, k ≤ n ∧ i = .int .i64 k ∧ wr.there w.heap.size 0 n ∧ Copies w.heap.size wr k A L F ∧ Below w.heap.size w wr ∧ w.heap.size < wr.heap.size) (fun i _ => n - (intOf i).toNat)
            case atStart => exact ⟨0, Nat.zero_le _, rfl, HTH0.out, fun i hi => absurd hi (Nat.not_lt_zero _), hbA, hN0⟩
            case round =>
              obtain ⟨k, hk, rfl, hth, hcp, hbr, hNr⟩ := hrel
              have HTH : Hid (wr.there w.heap.size 0 n) := hth
              have HCP : Hid (Copies w.heap.size wr k A L F) := hcp
              clear hth hcp HTH0 hbA hN0
              by_cases hlt2 : k < n
              · obtain ⟨⟨b, o, e0, hc⟩, hu⟩ := HS.out k hlt2
                cases e0
                have hcr := (hbr.cell (World.block_lt_of_cell? w _ hc)).trans hc
                have HU : Hid (U64s (fun b => b < w.heap.size) wr (A k) (L k) (F k)) := hu.kept (Kept.of_below hbr) (fun b hb => by omega)
                clear hu hc
                go_wp2_with fail
                refine (bclone_any _ (A k) (L k) (C k) (F k) wr (hLs.out k hlt2) HU.out).mono ?_
                rintro e w2 ⟨a', c', rfl, y1, y2, y3⟩
                obtain ⟨⟨vold, hold⟩, hfr⟩ := thereAt HTH.out y3 hNr hlt2
                have HC2 := HCP.out.step (c' := c') y3 hNr hold y1 y2
                have HTH2 : Hid (w2.there w.heap.size 0 n) := thereBelow HTH.out y3 hNr
                clear y2
                go_wp2
                go_roundw
                case rel => exact ⟨k + 1, by omega, by go_num, World.there_setCells HTH2.out _ _ [_], HC2, (hbr.trans (y3.mono (by omega))).setCell (Nat.le_refl _) _, by have := y3.size; simp [World.setCell]; omega⟩
                case measure => simp [intOf]; omega
              · have hkn : n = k := by omega
                subst hkn
                go_wp2
                go_meet
                case rel => exact acAt_of HCP.out rfl hbr
        case rest =>
          obtain ⟨ac, cc, A', C', rfl, hacn, hst, hA', hbx⟩ := hcut
          obtain ⟨W, rfl⟩ : ∃ W, W = wc := ⟨_, rfl⟩
          have HST : Hid (Stamps (fun _ => True) W ac n A' L C' F) := hst
          have HA' : Hid (∀ i, i < n → (A' i).isNone = (A i).isNone) := hA'
          have HTW : Hid (U64s (fun b => b < w.heap.size) W a1 m g) := HT.out.kept (Kept.of_below hbx) (fun b hb => by omega)
          clear hst hA'
          go_upto_region 18 with (go_at_call 19; refine (bclone_any _ a1 m c1 g W (by omega) HTW.out).mono ?_; rintro e WD ⟨ta, tcap, rfl, y1, y2, y3⟩)
          have HTC : Hid (U64s (fun b => W.heap.size ≤ b) WD ta m g) := y2
          clear y2
          go_cut [10] (fun v wx => ∃ R, v = .pointer (some ⟨R, 0, none⟩) ∧ wx.cell? ⟨R, 8, none⟩ = some (.slice ac n cc) ∧ Below WD.heap.size WD wx)
          case first =>
            go_wp2
            go_meet
            case rel => exact ⟨_, rfl, by simp, (Below.refl _ _).alloc (Nat.le_refl _) _⟩
          case rest =>
            obtain ⟨R, rfl, hR, hbR⟩ := hcut
            obtain ⟨X, rfl⟩ : ∃ W, W = wc := ⟨_, rfl⟩
            have hsW := hbx.size
            have hsD := y3.size
            have hbX : Below w.heap.size w X := hbx.trans ((y3.mono (by omega)).trans (hbR.mono (by omega)))
            have HSX : Hid (Stamps (fun _ => True) X ac n A' L C' F) := (HST.out.grow y3).grow hbR
            have HTX : Hid (U64s (fun b => W.heap.size ≤ b) X ta m g) := HTC.out.grow hbR
            have HSI : Hid (Stamps (fun b => b < w.heap.size) X a0 n A L C F) := HS.out.below hbX
            have HTI : Hid (U64s (fun b => b < w.heap.size) X a1 m g) := HT.out.kept (Kept.of_below hbX) (fun b hb => by omega)
            clear HST HTC HTW hbx hbR y3 hsW hsD HS HT
            go_wp2_with (go_at_call 20; refine (acked_any _ _ R n m cc tcap ac ta A' L C' F g X (by omega) (by omega) hLs.out HSX.out HTX.out hR).mono ?_; rintro e w' ⟨got, rfl, hgot, hw⟩; replace hw := hw.symm; subst hw)
            have HGOT : Hid (got = true ↔ ∀ i, i < n → ¬ Less (F i) (L i) g m) := hgot
            clear hgot
            go_loopw [12, 13] (fun t i wr => ∃ (k q : Nat) (c : Bool), k ≤ n ∧ i = .int .i64 k ∧ t = .bool c ∧ (c = true ↔ ∀ i, i < k → ¬ Less (F i) (L i) g m) ∧ wr = X.drewN q) (fun _ i _ => n - (intOf i).toNat)
            case atStart => exact ⟨0, 0, true, Nat.zero_le _, rfl, rfl, ⟨fun _ i hi => absurd hi (Nat.not_lt_zero _), fun _ => rfl⟩, rfl⟩
            case round =>
              obtain ⟨k, q, c, hk, rfl, rfl, hc, rfl⟩ := hrel
              have HC : Hid (c = true ↔ ∀ i, i < k → ¬ Less (F i) (L i) g m) := hc
              clear hc
              by_cases hlt3 : k < n
              · obtain ⟨⟨b, o, rfl, hc3⟩, hu3⟩ := HSI.out k hlt3
                have HU3 : Hid (U64s (fun b => b < w.heap.size) X (A k) (L k) (F k)) := hu3
                clear hu3
                by_cases hl : Less (F k) (L k) g m
                · have HLs : Hid (Less (F k) (L k) g m) := hl
                  clear hl
                  go_wp2_with (go_at_call 21; refine (bless_any _ _ (A k) a1 (L k) m (C k) c1 (F k) g (X.drewN q) (hLs.out k hlt3) (by omega) (by exact HU3.out) (by exact HTI.out)).mono ?_; rintro e w' ⟨b', rfl, hb', q', hw⟩; subst hw; obtain rfl := hb'.2 HLs.out; clear hb')
                  go_roundw
                  case rel => exact ⟨k + 1, _, false, by omega, by go_num, rfl, ⟨(fun h => by cases h), fun h => absurd HLs.out (h k (by omega))⟩, rfl⟩
                  case measure => simp [intOf]; omega
                · have HLs : Hid (¬ Less (F k) (L k) g m) := hl
                  clear hl
                  go_wp2_with (go_at_call 21; refine (bless_any _ _ (A k) a1 (L k) m (C k) c1 (F k) g (X.drewN q) (hLs.out k hlt3) (by omega) (by exact HU3.out) (by exact HTI.out)).mono ?_; rintro e w' ⟨b', rfl, hb', q', hw⟩; subst hw; obtain rfl : b' = false := Bool.eq_false_iff.2 (fun h => HLs.out (hb'.1 h)); clear hb')
                  go_roundw
                  case rel =>
                    refine ⟨k + 1, _, c, by omega, by go_num, rfl, HC.out.trans ⟨fun h i hi => ?_, fun h i hi => h i (by omega)⟩, rfl⟩
                    by_cases e : i = k
                    · subst e; exact HLs.out
                    · exact h i (by omega)
                  case measure => simp [intOf]; omega
              · have hkn : n = k := by omega
                subst hkn
                obtain rfl : got = c := by rw [Bool.eq_iff_iff]; exact HGOT.out.trans HC.out.symm
                clear HC HGOT
                go_wp2_with (go_at_call 22; refine (bsame_any _ _ ta a1 m tcap c1 g (X.drewN q) (by omega) y1 (by exact HTX.out) (by exact HTI.out)).mono ?_; rintro e w' ⟨rfl, q', hw⟩; subst hw)
                go_loopw [14] (fun i wr => ∃ k q : Nat, k ≤ n ∧ i = .int .i64 k ∧ wr = X.drewN q) (fun i _ => n - (intOf i).toNat)
                case atStart => exact ⟨0, _, Nat.zero_le _, rfl, rfl⟩
                case round =>
                  obtain ⟨k, q, hk, rfl, hwr⟩ := hrel
                  have hR4 : wr.cell? ⟨R, 8, none⟩ = some (.slice ac n cc) := by subst hwr; exact hR
                  have HSI4 : Hid (Stamps (fun b => b < w.heap.size) wr a0 n A L C F) := by subst hwr; exact HSI.out
                  have HSX4 : Hid (Stamps (fun _ => True) wr ac n A' L C' F) := by subst hwr; exact HSX.out
                  have HWR : Hid (wr = X.drewN q) := hwr
                  clear hwr hR
                  by_cases hlt4 : k < n
                  · obtain ⟨⟨b, o, e0, hc4⟩, hu4⟩ := HSI4.out k hlt4
                    obtain ⟨⟨b5, o5, e5, hc5⟩, hu5⟩ := HSX4.out k hlt4
                    subst e0 e5
                    have HU4 : Hid (U64s (fun b => b < w.heap.size) wr (A k) (L k) (F k)) := hu4
                    have HU5 : Hid (U64s (fun _ => True) wr (A' k) (L k) (F k)) := hu5
                    have hkI : (k : Int) < n := by omega
                    clear hu4 hu5
                    go_wp2
                    go_quiet ((go_at_call 22; exact Calls.quiet_of (bsame_any (fun _ => True) (fun b => b < w.heap.size) (A' k) (A k) (L k) (C' k) (C k) (F k) _ (hLs.out k hlt4) (HA'.out k hlt4) (by exact HU5.out) (by exact HU4.out))))
                    go_wp2
                    go_roundw
                    case rel => exact ⟨k + 1, q + nq, by omega, by go_num, by rw [HWR.out, World.drewN_drewN]⟩
                    case measure => simp [intOf]; omega
                  · go_wp2
                    go_ret
                    exact ⟨rfl, by rw [HWR.out]; exact hbX.trans ⟨rfl, rfl, rfl, Nat.le_refl _, fun _ _ => rfl⟩⟩
      · go_wp2
        go_ret
        exact ⟨rfl, Below.refl _ _⟩
end Go.Proofs.Ybulkebym.lawS6421BWhole
