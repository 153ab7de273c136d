/-
  'Rows.LawS6420CWholeCardSaid': the law's walk (the four texts YbulkebxyDoorWalk*) lifted to the row (the slice of records opened struct by struct; 'strconv's table taken from the row's listed variables), then the tied card by the given tie.
-/
import Derived.Test.YbulkebxyDoorWalkNil
import Derived.Test.YbulkebxyDoorWalkEmpty
import Derived.Test.YbulkebxyDoorWalkPos
import Derived.Test.YbulkebxyDoorWalkZero
import Derived.Test.YbulkebxyDoorTie
import Derived.Test.YbulkebxyDoorCards
import Derived.ProofKit
import Derived.LaidMore
import Derived.OpenShut
import Derived.Stop.Joined
import Derived.Deep.Slices
import Derived.Deep.Fields
import Derived.SevenTiedAt
namespace Go.Proofs.YbulkebxyDoor.lawS6420CWhole
open Go.ChangeShapes Go.WideShapes Go.ChangeAt Go.RowKit Go.Deep
set_option linter.unusedVariables false

set_option maxRecDepth 100000 in
/-- THE LAW's WALK: at every input she returns true, and nothing that stood before is changed. -/
theorem walk (msl : Int) (a : Option Addr) (n c : Nat) (rows : Nat → DsRow) (w : World) (hm0 : -9223372036854775808 ≤ msl) (hm1 : msl ≤ 9223372036854775807) (hrow : RowsAt w a n rows) (htab : Lib.TabIs Ybad.prog w "internal/strconv.uint64pow10" .u64 Lib.pow10Tab) :
    Calls Ybad.prog 3 #[.int .i64 msl, .slice a n c] w fun e w' => e = .returned (.bool true) ∧ Below w.heap.size w w' := by
  by_cases hn : n ≤ 65536
  · rcases Nat.eq_zero_or_pos n with rfl | hn0
    · cases a with
      | none => exact walk_nil msl c rows w hm0 hm1 htab
      | some x => exact walk_empty msl x c rows w hm0 hm1 htab
    · obtain ⟨_, b, o, rfl, _⟩ := hrow 0 hn0
      by_cases hm : 0 < msl
      · exact walk_pos msl b o n c rows w hm0 hm1 hn0 hm hn hrow htab
      · exact walk_zero msl b o n c rows w hm0 hm1 hn0 hm hn hrow htab
  · have hgt : (65536 : Int) < (n : Int) := by omega
    clear hrow htab hn
    go_enter Ybad.func3, Ybad.ntmps3
    go_wp2
    go_ret
    exact ⟨rfl, Below.refl _ _⟩

theorem own : ownKnob Ybad.prog.godebug = none := by kernel_rfl
theorem laidOut : laidOutB Ybad.prog = true := by kernel_rfl
theorem cells24 : Ybad.prog.cellsOf 24 = 1 := by kernel_rfl
theorem cells5 : Ybad.prog.cellsOf 5 = 1 := by kernel_rfl
theorem cells9 : Ybad.prog.cellsOf 9 = 1 := by kernel_rfl
theorem cells26 : Ybad.prog.cellsOf 26 = 8 := by kernel_rfl

theorem bounds_u16 {n : Int} (h : (Lit.int .u16 n).wf = true) : 0 ≤ n ∧ n ≤ 65535 := by
  simp [Lit.wf, IntKind.min, IntKind.max, IntKind.signed, IntKind.bits] at h
  omega
theorem bounds_u8 {n : Int} (h : (Lit.int .u8 n).wf = true) : 0 ≤ n ∧ n ≤ 255 := by
  simp [Lit.wf, IntKind.min, IntKind.max, IntKind.signed, IntKind.bits] at h
  omega
theorem bounds_i64 {n : Int} (h : (Lit.int .i64 n).wf = true) : -9223372036854775808 ≤ n ∧ n ≤ 9223372036854775807 := by
  simp [Lit.wf, IntKind.min, IntKind.max, IntKind.signed, IntKind.bits] at h
  omega

/-- One record's cells, out of its reading. -/
theorem row_open {H : Type} {enc : TypeId × Value → H} {W : World} {base : Nat} {sp : Nat → Bool} {held : Bool} {fuel : Nat} {cs : List Value} {x : DataW H × List MemPlace} (h : DataW.trod enc Ybad.prog W base sp held fuel 26 cs = some x) : ∃ r : DsRow, r.ok ∧ cs = rowCells r := by
  obtain ⟨xs, n, _, rfl, hl, hxl, hf⟩ := DataW.trod_struct Ybad.underlying26 h
  rw [cells26] at hl
  have hl8 : xs.length = 8 := hxl
  match cs, hl, xs, hl8 with
  | [c0, c1, c2, c3, c4, c5, c6, c7], _, [x0, x1, x2, x3, x4, x5, x6, x7], _ =>
    have g0 : DataW.trod enc Ybad.prog W base sp held n 24 (([c0, c1, c2, c3, c4, c5, c6, c7].drop 0).take (Ybad.prog.cellsOf 24)) = some x0 := hf 0 _ rfl
    rw [cells24] at g0
    have g1 : DataW.trod enc Ybad.prog W base sp held n 5 (([c0, c1, c2, c3, c4, c5, c6, c7].drop 1).take (Ybad.prog.cellsOf 5)) = some x1 := hf 1 _ rfl
    rw [cells5] at g1
    have g2 : DataW.trod enc Ybad.prog W base sp held n 5 (([c0, c1, c2, c3, c4, c5, c6, c7].drop 2).take (Ybad.prog.cellsOf 5)) = some x2 := hf 2 _ rfl
    rw [cells5] at g2
    have g3 : DataW.trod enc Ybad.prog W base sp held n 9 (([c0, c1, c2, c3, c4, c5, c6, c7].drop 3).take (Ybad.prog.cellsOf 9)) = some x3 := hf 3 _ rfl
    rw [cells9] at g3
    have g4 : DataW.trod enc Ybad.prog W base sp held n 24 (([c0, c1, c2, c3, c4, c5, c6, c7].drop 4).take (Ybad.prog.cellsOf 24)) = some x4 := hf 4 _ rfl
    rw [cells24] at g4
    have g5 : DataW.trod enc Ybad.prog W base sp held n 5 (([c0, c1, c2, c3, c4, c5, c6, c7].drop 5).take (Ybad.prog.cellsOf 5)) = some x5 := hf 5 _ rfl
    rw [cells5] at g5
    have g6 : DataW.trod enc Ybad.prog W base sp held n 5 (([c0, c1, c2, c3, c4, c5, c6, c7].drop 6).take (Ybad.prog.cellsOf 5)) = some x6 := hf 6 _ rfl
    rw [cells5] at g6
    have g7 : DataW.trod enc Ybad.prog W base sp held n 9 (([c0, c1, c2, c3, c4, c5, c6, c7].drop 7).take (Ybad.prog.cellsOf 9)) = some x7 := hf 7 _ rfl
    rw [cells9] at g7
    obtain ⟨z0, e0, _, b0⟩ := DataW.trod_int Ybad.underlying24 (show DataW.trod enc Ybad.prog W base sp held n 24 [c0] = some x0 from g0)
    obtain ⟨z1, e1, _, b1⟩ := DataW.trod_int Ybad.underlying5 (show DataW.trod enc Ybad.prog W base sp held n 5 [c1] = some x1 from g1)
    obtain ⟨z2, e2, _, b2⟩ := DataW.trod_int Ybad.underlying5 (show DataW.trod enc Ybad.prog W base sp held n 5 [c2] = some x2 from g2)
    obtain ⟨z3, e3, _, b3⟩ := DataW.trod_string Ybad.underlying9 (show DataW.trod enc Ybad.prog W base sp held n 9 [c3] = some x3 from g3)
    obtain ⟨z4, e4, _, b4⟩ := DataW.trod_int Ybad.underlying24 (show DataW.trod enc Ybad.prog W base sp held n 24 [c4] = some x4 from g4)
    obtain ⟨z5, e5, _, b5⟩ := DataW.trod_int Ybad.underlying5 (show DataW.trod enc Ybad.prog W base sp held n 5 [c5] = some x5 from g5)
    obtain ⟨z6, e6, _, b6⟩ := DataW.trod_int Ybad.underlying5 (show DataW.trod enc Ybad.prog W base sp held n 5 [c6] = some x6 from g6)
    obtain ⟨z7, e7, _, b7⟩ := DataW.trod_string Ybad.underlying9 (show DataW.trod enc Ybad.prog W base sp held n 9 [c7] = some x7 from g7)
    cases e0; cases e1; cases e2; cases e3; cases e4; cases e5; cases e6; cases e7
    exact ⟨⟨z0, z1, z2, z3, z4, z5, z6, z7⟩, ⟨bounds_u16 b0, bounds_u8 b1, bounds_u8 b2, bounds_u16 b4, bounds_u8 b5, bounds_u8 b6⟩, rfl⟩

instance : Inhabited DsRow := ⟨⟨0, 0, 0, ⟨#[]⟩, 0, 0, 0, ⟨#[]⟩⟩⟩

theorem rows_open {H : Type} {enc : TypeId × Value → H} {W : World} {base : Nat} {sp : Nat → Bool} {held : Bool} {fuel : Nat} {a : Option Addr} {n c : Nat} {x : DataW H × List MemPlace} (h : DataW.trod enc Ybad.prog W base sp held fuel 22 [.slice a n c] = some x) : ∃ rows : Nat → DsRow, RowsAt W a n rows := by
  rcases open_slice Ybad.underlying22 h with ⟨hcs, _⟩ | ⟨y, l, cap, m, k, D, Pl, hcs, hb, hl, hm, hmm, hx, hel⟩
  · cases hcs
    exact ⟨fun _ => default, fun i hi => absurd hi (Nat.not_lt_zero _)⟩
  · cases hcs
    have hle : n ≤ m := by rw [hmm]; split <;> omega
    have key : ∀ i, i < n → ∃ r : DsRow, r.ok ∧ ∃ b o, some y = some ⟨b, o, none⟩ ∧ W.rangeAt b (o + i * 8) (rowCells r) := by
      intro i hi
      obtain ⟨cs', hc, ht⟩ := hel i (by omega)
      obtain ⟨r, hok, rfl⟩ := row_open ht
      rw [cells26] at hc
      obtain ⟨_, _, hcell⟩ := World.cells?_some hc
      obtain ⟨cs0, hc0, ht0⟩ := hel 0 (by omega)
      obtain ⟨r0, _, rfl⟩ := row_open ht0
      rw [cells26] at hc0
      obtain ⟨b, o, s⟩ := y
      have h0 := (World.cells?_some hc0).2.2 0 (by decide)
      have hs : s = none := by simpa [Addr.add] using World.cell?_spot (h0.trans (by rfl : (rowCells r0)[0]? = some (.int .u16 r0.kt)))
      subst hs
      refine ⟨r, hok, b, o, rfl, fun j v hv => ?_⟩
      have hj : j < 8 := (List.getElem?_eq_some_iff.1 hv).1
      have := hcell j hj
      rw [hv, Addr.add_mid, Addr.add_mid] at this
      exact this
    obtain ⟨rows, hr⟩ := choose_lt key
    exact ⟨rows, fun i hi => hr i hi⟩

theorem g10 : Ybad.prog.globalNamed "internal/strconv.uint64pow10" = some 0 := by kernel_rfl
theorem t10 : (Ybad.prog.globals[0]?).map (·.type) = some 67 := by kernel_rfl

def laid3 : List (String × DataW Unit) := [("math/bits.deBruijn32tab", Rows.laid_math_bits_deBruijn32tab), ("math/bits.deBruijn64tab", Rows.laid_math_bits_deBruijn64tab), ("internal/strconv.uint64pow10", Rows.laid_internal_strconv_uint64pow10)]

theorem pow10_datum : (Rows.laid_internal_strconv_uint64pow10 : DataW Unit) = Lib.tabData .u64 Lib.pow10Tab := by
  simp [Rows.laid_internal_strconv_uint64pow10, Lib.tabData, Lib.pow10Tab, List.range_succ]

/-- What the listed variables give the walk. -/
theorem of_laid {W : World} (h : laidMetH Ybad.prog laid3 W) : Lib.TabIs Ybad.prog W "internal/strconv.uint64pow10" .u64 Lib.pow10Tab := by
  rw [MakeChecks.laidMetH_plain _ _ _ (by kernel_rfl)] at h
  obtain ⟨ps, ⟨g0, t0, cs0, f0, p0, q0, hg0, ht0, hv0, hd0, ⟨g1, t1, cs1, f1, p1, q1, hg1, ht1, hv1, hd1, ⟨g2, t2, cs2, f2, p2, q2, hg2, ht2, hv2, hd2, _, _⟩, _⟩, _⟩, _⟩ := h
  obtain rfl := Option.some.inj (g10.symm.trans hg2)
  obtain rfl := Option.some.inj (t10.symm.trans ht2)
  rw [pow10_datum] at hd2
  unfold Lib.TabIs
  rw [hv2, ← Lib.cells_of_tab Ybad.underlying67 Ybad.underlying34 (by kernel_rfl) (by kernel_rfl) hd2]

/-- The door's own heap meets the condition. -/
theorem door_met (os : Os) (args : Array Value) : laidMetH Ybad.prog laid3 ((World.doorLaid Ybad.prog 400 os).forCall (fun _ _ => 0) ⟨#[], args, []⟩).memory := by
  rw [MakeChecks.laidMetH_plain _ _ _ (by kernel_rfl)]
  exact laidMet_of_run' 8 (by kernel_rfl) (by kernel_rfl)

set_option maxRecDepth 100000 in
theorem lifted (os : Os) (started : os.Started) (H : Type) (enc : TypeId × Value → H) :
    ReturnsInHanded {} Ybad.checked os 3 .any (fun w args => (Rows.lawS6420CWholeSpec.pre enc Ybad.prog Ybad.f3 [] false w args ∧ laidMetH Ybad.prog laid3 w) ∧ sizedMet enc Ybad.prog Ybad.f3 (OpenSpec.ofChange Rows.lawS6420CWholeSpec) false w args)
      (Rows.lawS6420CWholeSpec.post enc Ybad.prog Ybad.f3 false true false false) := by
  refine returnsInHanded_of_change_and (C := Ybad.checked) (X := fun w _ => laidMetH Ybad.prog laid3 w) (fun _ _ _ hh h => h.of_heap hh) own started (by kernel_rfl) Ybad.func3
    (ChangeSpec.witness_shaped (enc := enc) (C := Ybad.checked) (os := os) (X := fun w _ => laidMetH Ybad.prog laid3 w) false (World.doorLaid Ybad.prog 400 os) #[.int .i64 0, .slice none 0 0] 8 rfl (World.shaped_of_RefB (by kernel_rfl) (by kernel_rfl)) (by kernel_rfl) (by kernel_rfl) (by kernel_rfl) (door_met os _)) ?_
  intro W base args ds gs before hval0 hW _ _ hL _
  have hval : ∀ (j : Nat) t v, Ybad.f3.params[j]? = some t → args[j]? = some v → Value.okWide Ybad.prog W .any base t v := hval0
  have hW' := hW
  obtain ⟨p, q, hA0, hV, rfl, hfz, hnd⟩ := hW
  have hA : DataW.TrodAll enc Ybad.prog W 0 (fun _ => true) true Ybad.f3.params.toList args.toList ds p := hA0
  rw [Ybad.params3] at hA hval
  obtain ⟨v0, vs0, d0, ds0, p0, q0, hargs, rfl, rfl, h0, r0⟩ := trodAll_cons hA
  obtain ⟨v1, vs1, d1, ds1, p1, q1, rfl, rfl, rfl, h1, r1⟩ := trodAll_cons r0
  obtain ⟨rfl, rfl, rfl⟩ := trodAll_nil r1
  obtain rfl : args = #[v0, v1] := by cases args; simp_all
  obtain ⟨rfl, rfl⟩ := trodVars_none hV
  obtain ⟨a, n, c, rfl⟩ := okWide_slice Ybad.underlying22 (hval 1 22 v1 rfl rfl)
  have k0 := h0
  have lt0 : ∀ x ∈ p0, x.block < W.heap.size := by obtain ⟨m, hm⟩ := k0; exact DataW.trod_lt m _ _ _ hm
  have k1 := h1
  have lt1 : ∀ x ∈ p1, x.block < W.heap.size := by obtain ⟨m, hm⟩ := k1; exact DataW.trod_lt m _ _ _ hm
  obtain ⟨msl, rfl, rfl, rfl, hmw⟩ := open_int Ybad.underlying3 (hval 0 3 v0 rfl rfl) h0
  obtain ⟨rows, hrows⟩ : ∃ rows, RowsAt W a n rows := by
    obtain ⟨fuel, hf⟩ := h1
    exact rows_open hf
  have hb := bounds_i64 hmw
  clear hA0 hval0
  refine (walk msl a n c rows W hb.1 hb.2 hrows (of_laid hL)).mono fun e W' ⟨he, bel⟩ => ?_
  subst he
  exact ⟨_, rfl, _, _, _, [], _, [], hW', trodAll_mk1 (shut_bool Ybad.underlying4 _), (trodAll_cons_mk (Below.trod laidOut (by kernel_rfl) (of_decide_eq_true (by kernel_rfl)) k0 bel lt0) (trodAll_cons_mk (Below.trod laidOut (by kernel_rfl) (of_decide_eq_true (by kernel_rfl)) k1 bel lt1) trodAll_mk0)), rfl, bel.frame _, fun h => by cases h⟩

theorem row_holds : Rows.LawS6420CWholeSaid :=
  OpenClaim.holds_of_wide 3 Ybad.f3 rfl rfl rfl rfl rfl rfl rfl ⟨rfl, rfl, rfl, rfl, rfl⟩ rfl rfl rfl rfl rfl (by kernel_rfl) Ybad.func3 (by kernel_rfl)
    (of_decide_eq_true (by kernel_rfl)) (by unfold Func.isWrapper; first | (rw [if_pos (by decide +kernel)]; kernel_rfl) | (rw [if_neg (by decide +kernel)]; exact ⟨rfl, rfl⟩))
    (fun os started H enc _ => lifted os started H enc)

/-- THE STATEMENT: the tied card. -/
theorem proved : Rows.LawS6420CWholeCardSaid :=
  Claim7.holds_tied_plain_at .later [] [.data, .data, .data] true (true, "f23181ce424b30187132cc8cf190c0ec2d3317181628e162b20c781e4b4b7936") false
    row_holds (fun _ h => by cases h) (by kernel_rfl) (fun _ h => by cases h) lawS6420CWhole_row_tie rfl ⟨rfl, rfl⟩ (by kernel_rfl) rfl
    (fun f fn hf hfn => by
      obtain rfl : f = 3 := Option.some.inj ((show Ybad.prog.funcNamed "example.com/provisio/provisio/pkg/server.LawS6420CWhole" = some 3 by kernel_rfl).symm.trans hf) |>.symm
      obtain rfl : fn = Ybad.f3 := (Option.some.inj (Ybad.func3.symm.trans hfn)).symm
      exact ⟨by kernel_rfl, fun j t ht => by
        rw [Ybad.params3] at ht
        rcases j with _ | _ | j
        · obtain rfl : t = 3 := by simpa using ht.symm
          exact (show Ybad.prog.wantsStandIn 3 = false by kernel_rfl)
        · obtain rfl : t = 22 := by simpa using ht.symm
          exact (show Ybad.prog.wantsStandIn 22 = false by kernel_rfl)
        · simp at ht⟩)
    (by kernel_rfl)
#print axioms proved
end Go.Proofs.YbulkebxyDoor.lawS6420CWhole
