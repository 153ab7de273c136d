import Derived.Test.YbulkebzoFmtPlain
import Derived.Deep.RegionHeld3
namespace Go.Proofs.YbulkebzoFmt
open Go.ChangeShapes Go.WideShapes Go.ChangeAt Go.RowKit Go.Extern.Stop Go.Stop Go.Extern Go.Lib
set_option maxRecDepth 100000
set_option linter.unusedVariables false
set_option linter.unusedSimpArgs false

/-- A text that begins with the region r. -/
def startsAt (r : Nat) : Code → Bool
  | .region k _ _ => k == r
  | .seq a _ => startsAt r a
  | .block _ c => startsAt r c
  | .scope c => startsAt r c
  | _ => false
/-- The rest of a text, from the region r on. -/
def dropTo (r : Nat) : Code → Option Code
  | .seq a b => if startsAt r a then some (.seq a b) else match dropTo r b with
    | some c => some c
    | none => dropTo r a
  | .block _ c => dropTo r c
  | .scope c => dropTo r c
  | c => if startsAt r c then some c else none
/-- What follows the setting of 'limit' in the law. -/
noncomputable def tailCode : Code := (Ybaf.f3.body.bind (dropTo 34)).getD .skip

def z32 : List Value := (List.replicate 32 (0 : UInt8)).map cell

/-- What holds behind ReadKey. -/
structure Tl (R : Rd) (w0 w : World) (rb kb1 kb0 pos : Nat) (k : List UInt8) (ev : Value) : Prop where
  below : Below w0.heap.size w0 w
  bdlt : w0.heap.size ≤ kb0
  klen : k.length = 32
  r : w.heap[rb]? = some (.cells (rcells R pos) 29 (0, 0))
  fb : ∃ t, w.heap[R.fb]? = some (.cells #[.string t] 41 (0, 0))
  key : w.rangeAt kb1 0 (k.map cell)
  zero : w.rangeAt kb0 0 z32
  data : ∀ i, i < R.L → w.cell? ⟨R.bd, i, none⟩ = some (.int .u8 (R.xs i))
  rng : ∀ i, i < R.L → 0 ≤ R.xs i ∧ R.xs i < 256
  hL : R.L ≤ R.cd
  hcd : R.cd ≤ 1000
  hfa : R.fa < 80
  fails : Fails R → pos = R.fa ∧ k = List.replicate 32 0 ∧ ∃ wb, ev = .iface 63 (.pointer (some ⟨wb, 0, none⟩)) ∧ w.cell? ⟨wb, 1, none⟩ = some (.iface 39 (.pointer (some ⟨R.fb, 0, none⟩)))
  oks : ¬ Fails R → pos = min R.L 66 ∧ (R.L ≤ 65 ∧ Good (cut R) → k = (Hx.decode (cut R)).1 ∧ ev = .nilIface) ∧ (¬ (R.L ≤ 65 ∧ Good (cut R)) → k = List.replicate 32 0 ∧ ∃ eb x, eb ≠ R.fb ∧ ev = .iface 39 (.pointer (some ⟨eb, 0, none⟩)) ∧ w.heap[eb]? = some (.cells #[.string x] 41 (0, 0)))

def lenOfI : Value → Nat
  | .int _ n => n.toNat
  | _ => 0
theorem byte_bits : ∀ h : Nat, h < 16 → ∀ l : Nat, l < 16 → bits BinOp.or IntKind.u8 ((h : Int) * 16 % 256) (l : Int) = ((UInt8.ofNat (h * 16 + l)).toNat : Int) := by decide +kernel
theorem wpList_load_midG {P : Program} {ops : Array Oper} {rest : List Oper} {op : Oper} {a : Act} {w : World} {Q : Exit → Act → World → Prop} (hw : Region.wanted op (yielded ops a.tmps) = true) (ty : TypeId) (x : Operand) (ho : op.op = .load ty x)
    (b o : Nat) (hx : a.eval x = .pointer (some ⟨b, o, none⟩)) (cs : List Value) (d : TypeDesc) (hc : w.rangeAt b o cs)
    (hu : P.underlying ty = some d) (hd : d.isRow = true) (hi : (P.info? ty).map (·.size) = some cs.length)
    (h : wpList P ops Q rest (a.put op.dst (.agg cs.toArray)) w) : wpList P ops Q (op :: rest) a w :=
  BigFrame.wpList_want hw fun _ hK => wp_load_mid ty x ho b o hx cs d hc hu hd hi (hK _ _ h)
/-- The law's own decoding: 'want' bears the bytes so far. -/
structure Wa (w wr : World) (pre : List UInt8) : Prop where
  below : Below w.heap.size w wr
  len : pre.length ≤ 32
  row : wr.heap[w.heap.size]? = some (.cells ((pre ++ List.replicate (32 - pre.length) 0).map cell).toArray 31 (0, 0))
theorem wa_start (w : World) : Wa w (w.alloc (.cells #[.int .u8 0, .int .u8 0, .int .u8 0, .int .u8 0, .int .u8 0, .int .u8 0, .int .u8 0, .int .u8 0, .int .u8 0, .int .u8 0, .int .u8 0, .int .u8 0, .int .u8 0, .int .u8 0, .int .u8 0, .int .u8 0, .int .u8 0, .int .u8 0, .int .u8 0, .int .u8 0, .int .u8 0, .int .u8 0, .int .u8 0, .int .u8 0, .int .u8 0, .int .u8 0, .int .u8 0, .int .u8 0, .int .u8 0, .int .u8 0, .int .u8 0, .int .u8 0] 31)) [] :=
  ⟨(Below.refl _ _).alloc (Nat.le_refl _) _, by simp, heap_alloc_new _ _⟩
theorem Wa.step {w wr : World} {pre : List UInt8} (h : Wa w wr pre) (b : UInt8) (hl : pre.length < 32) : Wa w (wr.setCell ⟨w.heap.size, pre.length, none⟩ (.int .u8 (b.toNat : Int))) (pre ++ [b]) := by
  rw [setCell_eq_setRow wr w.heap.size pre.length _ 31 (0, 0) _ h.row]
  refine ⟨below_setRow h.below (Nat.le_refl _) _, by simp; omega, ?_⟩
  rw [setRow_heap wr w.heap.size _ _ 31 _ h.row]
  congr 2
  apply Array.toList_inj.1
  simp only [Array.toList_setIfInBounds]
  rw [show 32 - pre.length = (32 - (pre ++ [b]).length) + 1 by simp; omega, List.replicate_succ]
  simp [List.set_append, cell]
theorem Wa.cell {w wr : World} {pre : List UInt8} (h : Wa w wr pre) (hl : pre.length < 32) : ∃ v, wr.cell? ⟨w.heap.size, pre.length, none⟩ = some v := by
  refine ⟨Extern.Stop.cell 0, cell_of_row h.row ?_⟩
  have h0 : (List.map Extern.Stop.cell pre).length = pre.length := by simp
  rw [List.getElem?_toArray, List.map_append, List.getElem?_append_right (by omega), h0, Nat.sub_self, List.map_replicate, List.getElem?_replicate, if_pos (by omega)]
theorem Wa.frozen {w wr : World} {pre : List UInt8} (h : Wa w wr pre) (j : Nat) : wr.frozen? ⟨w.heap.size, j, none⟩ = false := frozen_of_row h.row
theorem Wa.range {w wr : World} {pre : List UInt8} (h : Wa w wr pre) (hl : pre.length = 32) : wr.rangeAt w.heap.size 0 (pre.map Extern.Stop.cell) := by
  intro j v hv
  rw [Nat.zero_add]
  refine cell_of_row h.row ?_
  rw [hl, Nat.sub_self, List.replicate_zero, List.append_nil, List.getElem?_toArray]
  exact hv

theorem quiet_load_mid {P : Program} {C : World → Prop} {K : Act → Prop} {op : Oper} {a : Act} (ty : TypeId) (x : Operand) (ho : op.op = .load ty x) (b o : Nat) (hx : a.eval x = .pointer (some ⟨b, o, none⟩)) (cs : List Value) (d : TypeDesc) (hc : ∀ w, C w → w.rangeAt b o cs)
    (hu : P.underlying ty = some d) (hd : d.isRow = true) (hi : (P.info? ty).map (·.size) = some cs.length) (hk : K (a.put op.dst (.agg cs.toArray))) : op.quiet P a C K :=
  ⟨.agg cs.toArray, fun w hw => by
    unfold Oper.quietAt execOp
    simp only [ho, hx, Instr.loadAt, Instr.sureAddr, Sem.run_bind, Sem.run_pure, Result.andThen_ok, run_loadVar_mid w b o ty cs d (hc w hw) hu hd hi]
    exact ⟨rfl, rfl⟩, hk⟩
theorem rangeAt_drewN {w : World} {b o : Nat} {cs : List Value} (h : w.rangeAt b o cs) (q : Nat) : (w.drewN q).rangeAt b o cs := h
theorem z32_size : (Ybaf.prog.info? 31).map (·.size) = some z32.length := by kernel_rfl
theorem key_len {k : List UInt8} (h : k.length = 32) : (Ybaf.prog.info? 31).map (·.size) = some (k.map cell).length := by rw [size31, List.length_map, h]
theorem eq_keys (k l : List UInt8) (hk : k.length = 32) (hl : l.length = 32) (w : World) : (binOp .eql 31 (.agg (k.map cell).toArray) (.agg (l.map cell).toArray)).run Ybaf.prog w = .ok (.bool (k == l)) w :=
  run_eql_bytes w 31 5 32 Ybaf.underlying31 Ybaf.underlying5 Ybaf.sizeOf5 k l hk hl
theorem eq_zero (w : World) : (binOp .eql 31 (.agg z32.toArray) (.agg z32.toArray)).run Ybaf.prog w = .ok (.bool true) w := by
  have h := eq_keys (List.replicate 32 0) (List.replicate 32 0) (by simp) (by simp) w
  rw [beq_self_eq_true] at h
  exact h

set_option maxHeartbeats 8000000 in
theorem tail_any {s0 s1 s2 s3 s4 s5 s6 s7 s9 s10 s11 s12 s13 s14 s15 s16 s17 s18 s19 s20 s21 s22 s24 s25 s26 s27 s34 s35 s36 s37 s38 s39 s40 s41 s42 s43 s44 s45 s46 s47 s48 s49 s50 s51 s52 s53 s54 s55 s56 s57 s58 s59 s60 s61 s62 s63 s64 s65 s66 s67 s68 s69 s70 s71 s72 s73 s74 s75 s76 s77 s78 s79 s80 s81 s82 s83 s84 s85 s86 s87 s88 s89 s90 s91 s92 s93 s94 s95 s96 s97 s98 s99 s100 s101 s102 s103 s104 s105 s106 s107 s108 s109 s110 s111 s112 s113 s114 s115 s116 s117 s118 s119 s120 s121 s122 s123 s124 s125 s126 s127 s128 s129 s130 s131 s132 s133 s134 s135 s136 s137 s138 s139 s140 s141 s142 s143 s144 s145 s146 s147 s148 s149 s150 s151 s152 s153 s154 s155 s156 s157 s158 s159 s160 s161 s162 s163 s164 s165 s166 s167 s168 s169 s170 s171 s172 s173 s174 s175 s176 s177 s178 s179 s180 s181 s182 s183 s184 s185 s186 s187 s188 s189 s190 s191 s192 s193 s194 s195 s196 s197 s198 s199 s200 s201 s202 s203 s204 s205 s206 s207 s208 s209 s210 s211 s212 s213 s214 s215 s216 s217 s218 s219 s220 s221 s222 s223 s224 s225 s226 s227 s228 s229 s230 s231 s232 s233 s234 s235 s236 s237 s238 s239 s240 s241 s242 s243 s244 s245 s246 s247 s248 s249 s250 s251 s252 s253 s254 s255 s256 s257 s258 s259 s260 s261 s262 s263 s264 s265 s266 s267 s268 s269 s270 s271 s272 s273 s274 s275 s276 s277 s278 s279 s280 s281 s282 s283 s284 s285 s286 : Value} (R : Rd) (w0 w : World) (rb kb1 kb0 pos : Nat) (k : List UInt8) (ev : Value) (h : Tl R w0 w rb kb1 kb0 pos k ev) :
    Code.wp Ybaf.prog tailCode (bodyPost Ybaf.prog Ybaf.f3 (fun e w' => e = .returned (.bool true) ∧ Below w0.heap.size w0 w')) ⟨#[s0, s1, s2, s3, s4, s5, s6, s7, .bool R.fl, s9, s10, s11, s12, s13, s14, s15, s16, s17, s18, s19, s20, s21, s22, .slice (some ⟨R.bd, 0, none⟩) R.L R.cd, s24, s25, s26, s27, .iface 39 (.pointer (some ⟨R.fb, 0, none⟩)), .pointer (some ⟨rb, 0, none⟩), .pointer (some ⟨kb1, 0, none⟩), ev, .pointer (some ⟨kb0, 0, none⟩), .int .i64 R.L, s34, s35, s36, s37, s38, s39, s40, s41, s42, s43, s44, s45, s46, s47, s48, s49, s50, s51, s52, s53, s54, s55, s56, s57, s58, s59, s60, s61, s62, s63, s64, s65, s66, s67, s68, s69, s70, s71, s72, s73, s74, s75, s76, s77, s78, s79, s80, s81, s82, s83, s84, s85, s86, s87, s88, s89, s90, s91, s92, s93, s94, s95, s96, s97, s98, s99, s100, s101, s102, s103, s104, s105, s106, s107, s108, s109, s110, s111, s112, s113, s114, s115, s116, s117, s118, s119, s120, s121, s122, s123, s124, s125, s126, s127, s128, s129, s130, s131, s132, s133, s134, s135, s136, s137, s138, s139, s140, s141, s142, s143, s144, s145, s146, s147, s148, s149, s150, s151, s152, s153, s154, s155, s156, s157, s158, s159, s160, s161, s162, s163, s164, s165, s166, s167, s168, s169, s170, s171, s172, s173, s174, s175, s176, s177, s178, s179, s180, s181, s182, s183, s184, s185, s186, s187, s188, s189, s190, s191, s192, s193, s194, s195, s196, s197, s198, s199, s200, s201, s202, s203, s204, s205, s206, s207, s208, s209, s210, s211, s212, s213, s214, s215, s216, s217, s218, s219, s220, s221, s222, s223, s224, s225, s226, s227, s228, s229, s230, s231, s232, s233, s234, s235, s236, s237, s238, s239, s240, s241, s242, s243, s244, s245, s246, s247, s248, s249, s250, s251, s252, s253, s254, s255, s256, s257, s258, s259, s260, s261, s262, s263, s264, s265, s266, s267, s268, s269, s270, s271, s272, s273, s274, s275, s276, s277, s278, s279, s280, s281, s282, s283, s284, s285, s286], []⟩ w := by
  conv => arg 2; whnf
  have HT : Hid (Tl R w0 w rb kb1 kb0 pos k ev) := h
  have hL := h.hL
  have hcd := h.hcd
  have hfa := h.hfa
  obtain ⟨Q', hQ'⟩ : ∃ Q', Q' = bodyPost Ybaf.prog Ybaf.f3 (fun e w' => e = .returned (.bool true) ∧ Below w0.heap.size w0 w') := ⟨_, rfl⟩
  rw [← hQ']
  have HQ : Hid (Q' = bodyPost Ybaf.prog Ybaf.f3 (fun e w' => e = .returned (.bool true) ∧ Below w0.heap.size w0 w')) := hQ'
  clear h hQ'
  go_upto_if 143 with fail
  go_cut [33] from 142 to 143 (fun v wx => (∃ lim : Nat, v = .int .i64 lim ∧ lim = min R.L 66) ∧ wx = w)
  case first =>
    by_cases hc : (66 : Int) < R.L
    · go_wp2_with fail
      go_meet
      case rel => exact ⟨⟨66, rfl, by omega⟩, rfl⟩
    · go_wp2_with fail
      go_meet
      case rel => exact ⟨⟨R.L, rfl, by omega⟩, rfl⟩
  case rest =>
    obtain ⟨⟨lim, rfl, hlim⟩, hwc⟩ := hcut
    subst hwc
    have HLIM : Hid (lim = min R.L 66) := hlim
    have hl1 : lim ≤ 66 := by omega
    have hl2 : lim ≤ R.L := by omega
    clear hlim
    obtain ⟨w, rfl⟩ : ∃ W, W = wc := ⟨_, rfl⟩
    have c4 : w.cell? ⟨rb, 4, none⟩ = some (.int .i64 R.fa) := cell_of_row HT.out.r rfl
    have c1 : w.cell? ⟨rb, 1, none⟩ = some (.int .i64 pos) := cell_of_row HT.out.r rfl
    go_upto_region 36 with fail
    go_cut [8, 160] from 144 to 160 (fun _ v wx => (∃ bb : Bool, v = .bool bb ∧ (bb = true ↔ Fails R)) ∧ wx = w)
    case first =>
      cases hfl : R.fl
      · go_wp2_with fail
        go_meet
        case rel => exact ⟨⟨_, rfl, by unfold Fails; rw [hfl]; simp⟩, rfl⟩
      · by_cases h1 : (R.fa : Int) < 66
        · by_cases h2 : (R.fa : Int) ≤ R.L
          · go_wp2_with fail
            go_meet
            case rel => exact ⟨⟨_, rfl, by unfold Fails; rw [hfl]; simp; omega⟩, rfl⟩
          · go_wp2_with fail
            go_meet
            case rel => exact ⟨⟨_, rfl, by unfold Fails; rw [hfl]; simp; omega⟩, rfl⟩
        · go_wp2_with fail
          go_meet
          case rel => exact ⟨⟨_, rfl, by unfold Fails; rw [hfl]; simp; omega⟩, rfl⟩
    case rest =>
      obtain ⟨⟨bb, rfl, hbb⟩, hwc⟩ := hcut
      subst hwc
      obtain ⟨w, rfl⟩ : ∃ W, W = wc := ⟨_, rfl⟩
      cases bb
      case true =>
        have hfail : Fails R := hbb.1 rfl
        obtain ⟨hp, hk, wb, rfl, hwb⟩ := HT.out.fails hfail
        subst hk
        subst hp
        have HF : Hid (Fails R) := hfail
        have hkey : w.rangeAt kb1 0 z32 := HT.out.key
        have hzero : w.rangeAt kb0 0 z32 := HT.out.zero
        have heq := eq_zero
        have hu31 := Ybaf.underlying31
        have hsz := z32_size
        have his := fun W (h : W.cell? ⟨wb, 1, none⟩ = some (.iface 39 (.pointer (some ⟨R.fb, 0, none⟩)))) => is_wrap_same wb 0 ⟨R.fb, 0, none⟩ W h
        go_upto_region 37 with fail
        have hq1 : ∀ w', (∃ n, w' = w.drewN n) → w'.rangeAt kb1 0 z32 := fun w' ⟨q, hq⟩ => by rw [hq]; exact rangeAt_drewN hkey q
        have hq0 : ∀ w', (∃ n, w' = w.drewN n) → w'.rangeAt kb0 0 z32 := fun w' ⟨q, hq⟩ => by rw [hq]; exact rangeAt_drewN hzero q
        have HQ1 : Hid (∀ w', (∃ n, w' = w.drewN n) → w'.rangeAt kb1 0 z32) := hq1
        have HQ0 : Hid (∀ w', (∃ n, w' = w.drewN n) → w'.rangeAt kb0 0 z32) := hq0
        clear hq1 hq0 hkey hzero
        refine wp_region_quiet_lit (by kernel_rfl) (by kernel_rfl) ?_
        repeat (first | go_big_quiet_skip | (go_big_quiet_want; first | (refine quiet_load_mid 31 (.tmp 30) rfl kb1 0 rfl z32 _ HQ1.out Ybaf.underlying31 rfl z32_size ?_; (try simp only [Act.put, List.setIfInBounds_toArray, List.set_cons_zero, List.set_cons_succ]); go_big_quiet_on) | (refine quiet_load_mid 31 (.tmp 32) rfl kb0 0 rfl z32 _ HQ0.out Ybaf.underlying31 rfl z32_size ?_; (try simp only [Act.put, List.setIfInBounds_toArray, List.set_cons_zero, List.set_cons_succ]); go_big_quiet_on) | (go_big_quiet_op; first | go_big_quiet_on | go_big_quiet_call (first | (refine Calls.quiet_of_same (his _ (by exact hwb)))))))
        refine wpQuiet_nil ?_
        intro _ hw'
        obtain ⟨nq, hw''⟩ := hw'
        subst hw''
        go_wp2_with fail
        rw [HQ.out]
        go_ret
        exact ⟨rfl, HT.out.below.trans ⟨rfl, rfl, rfl, Nat.le_refl _, fun _ _ => rfl⟩⟩
      case false =>
        have hnf : ¬ Fails R := fun h => by have := hbb.2 h; simp at this
        obtain ⟨hp, hgood, hbad⟩ := HT.out.oks hnf
        obtain rfl : pos = lim := hp.trans HLIM.out.symm
        clear hp
        by_cases hg : R.L ≤ 65 ∧ Good (cut R)
        · obtain ⟨hk, rfl⟩ := hgood hg
          clear hgood hbad hbb
          have h65 : ¬ ((65 : Int) < pos) := by have := hg.1; omega
          have hL65 := hg.1
          go_upto_region 45 with fail
          have hpL : pos = R.L := by have := HLIM.out; omega
          subst hpL
          have HDATA : Hid (∀ i, i < R.L → w.cell? ⟨R.bd, i, none⟩ = some (.int .u8 (R.xs i))) := HT.out.data
          have HRNG : Hid (∀ i, i < R.L → 0 ≤ R.xs i ∧ R.xs i < 256) := HT.out.rng
          go_upto_region 46 with fail
          go_cut [222] from 211 to 222 (fun v wx => (∃ bb : Bool, v = .bool bb ∧ (bb = true ↔ (0 < R.L ∧ R.xs (R.L - 1) = 10))) ∧ wx = w)
          case first =>
            by_cases h0 : (0 : Int) < R.L
            · obtain ⟨q, hq⟩ : ∃ q, q = R.L - 1 := ⟨_, rfl⟩

              have hqi : (R.L : Int) - 1 = (q : Int) := by omega
              have hql : (q : Int) < R.L := by omega
              have hc := HDATA.out q (by omega)
              have HQE : Hid (q = R.L - 1) := hq
              clear hq
              go_wp2_with fail
              go_meet
              case rel =>
                refine ⟨⟨_, rfl, ?_⟩, rfl⟩
                rw [← HQE.out]
                simp
                omega
            · go_wp2_with fail
              go_meet
              case rel => exact ⟨⟨_, rfl, by simp; omega⟩, rfl⟩
          case rest =>
            obtain ⟨⟨bt, rfl, hbt⟩, hwc⟩ := hcut
            subst hwc
            obtain ⟨w, rfl⟩ : ∃ W, W = wc := ⟨_, rfl⟩
            go_upto_if 222 with fail
            go_cut [35] from 223 to 227 (fun v wx => v = .slice (some ⟨R.bd, 0, none⟩) (cut R).length R.cd ∧ wx = w)
            case first =>
              cases bt
              case true =>
                obtain ⟨h0, hx⟩ := hbt.1 rfl
                have hcl : (cut R).length = R.L - 1 := by rw [cut_nl R hL65 h0 hx, txt_length]
                have hqi : (R.L : Int) - 1 ≤ R.cd := by omega
                have hq0 : (0 : Int) ≤ (R.L : Int) - 1 := by omega
                have hqe : ((R.L : Int) - 1).toNat = R.L - 1 := by omega
                go_wp2_with fail
                go_meet
                case rel => exact ⟨by rw [hcl], rfl⟩
              case false =>
                have hcl : (cut R).length = R.L := by rw [cut_no R hL65 HRNG.out (fun h => by have := hbt.2 h; simp at this), txt_length]
                go_wp2_with fail
                go_meet
                case rel => exact ⟨by rw [hcl], rfl⟩
            case rest =>
              obtain ⟨rfl, hwc⟩ := hcut
              subst hwc
              obtain ⟨w, rfl⟩ : ∃ W, W = wc := ⟨_, rfl⟩
              clear hbt
              obtain ⟨M, hML, hcut⟩ := cut_txt R hL65 HRNG.out
              have hcl : (cut R).length = M := by rw [hcut, txt_length]
              have HCUT : Hid (cut R = txt R M) := hcut
              clear hcut
              rw [hcl]
              have HCL : Hid ((cut R).length = M) := hcl
              clear hcl
              obtain rfl : M = 64 := HCL.out.symm.trans hg.2.1
              go_upto_region 51 with fail
              obtain ⟨Wz, hWz⟩ : ∃ W, W = w.alloc (.cells #[.int .u8 0, .int .u8 0, .int .u8 0, .int .u8 0, .int .u8 0, .int .u8 0, .int .u8 0, .int .u8 0, .int .u8 0, .int .u8 0, .int .u8 0, .int .u8 0, .int .u8 0, .int .u8 0, .int .u8 0, .int .u8 0, .int .u8 0, .int .u8 0, .int .u8 0, .int .u8 0, .int .u8 0, .int .u8 0, .int .u8 0, .int .u8 0, .int .u8 0, .int .u8 0, .int .u8 0, .int .u8 0, .int .u8 0, .int .u8 0, .int .u8 0, .int .u8 0] 31) := ⟨_, rfl⟩
              have hwa0 : Wa w Wz [] := by rw [hWz]; exact wa_start w
              rw [← hWz]
              clear hWz
              have HWA : Hid (Wa w Wz []) := hwa0
              clear hwa0
              go_wp2_with fail
              go_loopw [37] (fun i wr => ∃ (j : Nat) (pre : List UInt8), j ≤ 32 ∧ i = .int .i64 j ∧ pre.length = j ∧ Hx.Mid (cut R) j pre ∧ Wa w wr pre) (fun i _ => 32 - lenOfI i)
              case atStart => exact ⟨0, [], Nat.zero_le _, rfl, rfl, Hx.mid_zero _, HWA.out⟩
              case round =>
                obtain ⟨j, pre, hj, rfl, hpl, hmid, hwa⟩ := hrel
                clear HWA
                have HWA : Hid (Wa w wr pre) := hwa
                have HMID : Hid (Hx.Mid (cut R) j pre) := hmid
                clear hwa hmid
                by_cases hlt : j < 32
                · have hlti : (j : Int) < 32 := by omega
                  have HB : Hid (Below w.heap.size w wr) := HWA.out.below
                  obtain ⟨e1, he1⟩ : ∃ e, e = 2 * j := ⟨_, rfl⟩
                  have hq1 : 2 * (j : Int) = (e1 : Int) := by omega
                  have hq1b : (e1 : Int) < 64 := by omega
                  obtain ⟨e2, he2⟩ : ∃ e, e = 2 * j + 1 := ⟨_, rfl⟩
                  have hq2 : (e1 : Int) + 1 = (e2 : Int) := by omega
                  have hq2b : (e2 : Int) < 64 := by omega
                  obtain ⟨X1, hX1⟩ : ∃ x, x = R.xs e1 := ⟨_, rfl⟩
                  obtain ⟨X2, hX2⟩ : ∃ x, x = R.xs e2 := ⟨_, rfl⟩
                  have hd1 := HDATA.out e1 (by omega)
                  have hd2 := HDATA.out e2 (by omega)
                  have hr1 := HRNG.out e1 (by omega)
                  have hr2 := HRNG.out e2 (by omega)
                  rw [← hX1] at hd1 hr1
                  rw [← hX2] at hd2 hr2
                  have hbdl : R.bd < w.heap.size := World.block_lt_of_cell? w _ hd1
                  have cc1 : wr.cell? ⟨R.bd, e1, none⟩ = some (.int .u8 X1) := (HB.out.cell hbdl).trans hd1
                  have cc2 : wr.cell? ⟨R.bd, e2, none⟩ = some (.int .u8 X2) := (HB.out.cell hbdl).trans hd2
                  have HP1 : Hid ((cut R)[2 * j]? = some (UInt8.ofNat X1.toNat)) := by show _ = _; rw [HCUT.out, hX1, ← he1]; exact txt_get R 64 e1 (by omega)
                  have HP2 : Hid ((cut R)[2 * j + 1]? = some (UInt8.ofNat X2.toNat)) := by show _ = _; rw [HCUT.out, hX2, ← he2]; exact txt_get R 64 e2 (by omega)
                  obtain ⟨nv1, nv2⟩ := nib_v X1 hr1.1 hr1.2
                  obtain ⟨nu1, nu2⟩ := nib_v X2 hr2.1 hr2.2
                  have HV1 : Hid (nibOk X1 = true ↔ ¬ 15 < Hx.v (UInt8.ofNat X1.toNat)) := nv1
                  have HV2 : Hid (nibOk X1 = true → nibV X1 = (Hx.v (UInt8.ofNat X1.toNat) : Int)) := nv2
                  have HU1 : Hid (nibOk X2 = true ↔ ¬ 15 < Hx.v (UInt8.ofNat X2.toNat)) := nu1
                  have HU2 : Hid (nibOk X2 = true → nibV X2 = (Hx.v (UInt8.ofNat X2.toNat) : Int)) := nu2
                  have hcn1 := nib_any X1 hr1.1 hr1.2 wr
                  have hcn2 := nib_any X2 hr2.1 hr2.2 wr
                  clear hd1 hd2 nv1 nv2 nu1 nu2 hX1 hX2 he1 he2 hbdl
                  by_cases ho1 : nibOk X1 = true
                  · by_cases ho2 : nibOk X2 = true
                    · go_upto_region 58 with (first | (go_at_call 7; (with_reducible refine hcn1.mono ?_); rintro e w' ⟨rfl, hww⟩; rw [hww]; clear hww) | (go_at_call 7; (with_reducible refine hcn2.mono ?_); rintro e w' ⟨rfl, hww⟩; rw [hww]; clear hww))
                      obtain ⟨v0, hv0⟩ := HWA.out.cell (by omega)
                      rw [hpl] at hv0
                      have hfz := HWA.out.frozen j
                      go_wp2_with fail
                      go_roundw
                      case rel =>
                        obtain ⟨h1, hh1⟩ : ∃ n, n = Hx.v (UInt8.ofNat X1.toNat) := ⟨_, rfl⟩
                        obtain ⟨h2, hh2⟩ : ∃ n, n = Hx.v (UInt8.ofNat X2.toNat) := ⟨_, rfl⟩
                        have a1 := HV1.out.1 ho1
                        have a2 := HU1.out.1 ho2
                        have b1 := HV2.out ho1
                        have b2 := HU2.out ho2
                        have hm := Hx.mid_step HMID.out _ _ HP1.out HP2.out a1 a2
                        have hs := HWA.out.step (UInt8.ofNat (h1 * 16 + h2)) (by omega)
                        rw [← byte_bits h1 (by omega) h2 (by omega), hpl] at hs
                        rw [← hh1] at b1 hm
                        rw [← hh2] at b2 hm
                        rw [← b1, ← b2] at hs
                        exact ⟨j + 1, pre ++ [UInt8.ofNat (h1 * 16 + h2)], by omega, by go_num, by simp [hpl], hm, hs⟩
                      case measure => simp [lenOfI]; omega
                    · have ho2' : nibOk X2 = false := by simpa using ho2
                      clear ho2
                      exfalso
                      have a1 := HV1.out.1 ho1
                      have a2 : 15 < Hx.v (UInt8.ofNat X2.toNat) := Classical.not_not.1 (fun h => by have := HU1.out.2 h; rw [ho2'] at this; simp at this)
                      have hd := Hx.mid_bad2 HMID.out _ _ HP1.out HP2.out a1 a2
                      have hgo := hg.2.2
                      rw [hd] at hgo
                      simp at hgo
                  · have ho1' : nibOk X1 = false := by simpa using ho1
                    clear ho1
                    exfalso
                    have a1 : 15 < Hx.v (UInt8.ofNat X1.toNat) := Classical.not_not.1 (fun h => by have := HV1.out.2 h; rw [ho1'] at this; simp at this)
                    have hd := Hx.mid_bad1 HMID.out _ _ HP1.out HP2.out a1
                    have hgo := hg.2.2
                    rw [hd] at hgo
                    simp at hgo
                · obtain rfl : j = 32 := by omega
                  have hd := Hx.mid_end HMID.out (by have := HCL.out; omega)
                  have hkp : k = pre := by rw [hk, hd]
                  subst hkp
                  have hb := HWA.out.below
                  have HKr1 : Hid (wr.rangeAt kb1 0 (k.map cell)) := fun i v hv => (hb.cell (World.block_lt_of_cell? w _ (HT.out.key i v hv))).trans (HT.out.key i v hv)
                  have HKr2 : Hid (wr.rangeAt w.heap.size 0 (k.map cell)) := HWA.out.range hpl
                  have HSZ : Hid ((Ybaf.prog.info? 31).map (·.size) = some (k.map cell).length) := key_len hpl
                  have heqk := eq_keys k k hpl hpl
                  rw [beq_self_eq_true] at heqk
                  have HBEL : Hid (Below w0.heap.size w0 wr) := HT.out.below.trans (hb.mono HT.out.below.size)
                  clear hb hd hk
                  have heqk2 : ∀ W : World, (Op.equalIn 10000 31 (.agg (k.map cell).toArray) (.agg (k.map cell).toArray)).run Ybaf.prog W = .ok true W := fun W => by rw [run_equalIn_bytes W 9998 31 5 32 Ybaf.underlying31 Ybaf.underlying5 Ybaf.sizeOf5 k k hpl hpl, beq_self_eq_true]
                  go_wp2_with (first | ((with_reducible apply wpList_load_midG (ty := 31) (x := .tmp 30) (cs := k.map cell) (hu := Ybaf.underlying31)); rfl; rfl; rfl; exact HKr1.out; rfl; exact HSZ.out) | ((with_reducible apply wpList_load_midG (ty := 31) (x := .tmp 36) (cs := k.map cell) (hu := Ybaf.underlying31)); rfl; rfl; rfl; exact HKr2.out; rfl; exact HSZ.out))
                  rw [HQ.out]
                  go_ret
                  exact ⟨rfl, HBEL.out⟩
        · obtain ⟨hk, eb, x, heb, rfl, hebr⟩ := hbad hg
          subst hk
          obtain ⟨tf, htf⟩ := HT.out.fb
          have his := is_other ⟨eb, 0, none⟩ ⟨R.fb, 0, none⟩ _ _ _ _ w (by intro h; exact heb (congrArg Addr.block h)) hebr htf
          have hkey : w.rangeAt kb1 0 z32 := HT.out.key
          have hzero : w.rangeAt kb0 0 z32 := HT.out.zero
          have HK1 : Hid (w.rangeAt kb1 0 z32) := hkey
          have HK0 : Hid (w.rangeAt kb0 0 z32) := hzero
          have heq := eq_zero
          clear hgood hbad hbb hebr htf hkey hzero
          by_cases h65 : (65 : Int) < pos
          · go_wp2_with (first | (go_at_call 6; refine his.mono ?_; rintro e w' ⟨rfl, hww⟩; rw [hww]; clear hww) | ((with_reducible apply wpList_load_mid (ty := 31) (x := .tmp 30) (cs := z32) (hu := Ybaf.underlying31)); rfl; rfl; rfl; exact HK1.out; rfl; exact z32_size) | ((with_reducible apply wpList_load_mid (ty := 31) (x := .tmp 32) (cs := z32) (hu := Ybaf.underlying31)); rfl; rfl; rfl; exact HK0.out; rfl; exact z32_size))
            rw [HQ.out]
            go_ret
            exact ⟨rfl, HT.out.below⟩
          · have hL65 : R.L ≤ 65 := by have := HLIM.out; omega
            go_upto_region 45 with (first | (go_at_call 6; refine his.mono ?_; rintro e w' ⟨rfl, hww⟩; rw [hww]; clear hww))
            have hpL : pos = R.L := by have := HLIM.out; omega
            subst hpL
            have HDATA : Hid (∀ i, i < R.L → w.cell? ⟨R.bd, i, none⟩ = some (.int .u8 (R.xs i))) := HT.out.data
            have HRNG : Hid (∀ i, i < R.L → 0 ≤ R.xs i ∧ R.xs i < 256) := HT.out.rng
            go_upto_region 46 with fail
            go_cut [222] from 211 to 222 (fun v wx => (∃ bb : Bool, v = .bool bb ∧ (bb = true ↔ (0 < R.L ∧ R.xs (R.L - 1) = 10))) ∧ wx = w)
            case first =>
              by_cases h0 : (0 : Int) < R.L
              · obtain ⟨q, hq⟩ : ∃ q, q = R.L - 1 := ⟨_, rfl⟩

                have hqi : (R.L : Int) - 1 = (q : Int) := by omega
                have hql : (q : Int) < R.L := by omega
                have hc := HDATA.out q (by omega)
                have HQE : Hid (q = R.L - 1) := hq
                clear hq
                go_wp2_with fail
                go_meet
                case rel =>
                  refine ⟨⟨_, rfl, ?_⟩, rfl⟩
                  rw [← HQE.out]
                  simp
                  omega
              · go_wp2_with fail
                go_meet
                case rel => exact ⟨⟨_, rfl, by simp; omega⟩, rfl⟩
            case rest =>
              obtain ⟨⟨bt, rfl, hbt⟩, hwc⟩ := hcut
              subst hwc
              obtain ⟨w, rfl⟩ : ∃ W, W = wc := ⟨_, rfl⟩
              go_upto_if 222 with fail
              go_cut [35] from 223 to 227 (fun v wx => v = .slice (some ⟨R.bd, 0, none⟩) (cut R).length R.cd ∧ wx = w)
              case first =>
                cases bt
                case true =>
                  obtain ⟨h0, hx⟩ := hbt.1 rfl
                  have hcl : (cut R).length = R.L - 1 := by rw [cut_nl R hL65 h0 hx, txt_length]
                  have hqi : (R.L : Int) - 1 ≤ R.cd := by omega
                  have hq0 : (0 : Int) ≤ (R.L : Int) - 1 := by omega
                  have hqe : ((R.L : Int) - 1).toNat = R.L - 1 := by omega
                  go_wp2_with fail
                  go_meet
                  case rel => exact ⟨by rw [hcl], rfl⟩
                case false =>
                  have hcl : (cut R).length = R.L := by rw [cut_no R hL65 HRNG.out (fun h => by have := hbt.2 h; simp at this), txt_length]
                  go_wp2_with fail
                  go_meet
                  case rel => exact ⟨by rw [hcl], rfl⟩
              case rest =>
                obtain ⟨rfl, hwc⟩ := hcut
                subst hwc
                obtain ⟨w, rfl⟩ : ∃ W, W = wc := ⟨_, rfl⟩
                clear hbt
                obtain ⟨M, hML, hcut⟩ := cut_txt R hL65 HRNG.out
                have hcl : (cut R).length = M := by rw [hcut, txt_length]
                have HCUT : Hid (cut R = txt R M) := hcut
                clear hcut
                rw [hcl]
                have HCL : Hid ((cut R).length = M) := hcl
                clear hcl
                by_cases h64 : M = 64
                · subst h64
                  go_upto_region 51 with fail
                  obtain ⟨Wz, hWz⟩ : ∃ W, W = w.alloc (.cells #[.int .u8 0, .int .u8 0, .int .u8 0, .int .u8 0, .int .u8 0, .int .u8 0, .int .u8 0, .int .u8 0, .int .u8 0, .int .u8 0, .int .u8 0, .int .u8 0, .int .u8 0, .int .u8 0, .int .u8 0, .int .u8 0, .int .u8 0, .int .u8 0, .int .u8 0, .int .u8 0, .int .u8 0, .int .u8 0, .int .u8 0, .int .u8 0, .int .u8 0, .int .u8 0, .int .u8 0, .int .u8 0, .int .u8 0, .int .u8 0, .int .u8 0, .int .u8 0] 31) := ⟨_, rfl⟩
                  have hwa0 : Wa w Wz [] := by rw [hWz]; exact wa_start w
                  rw [← hWz]
                  clear hWz
                  have HWA : Hid (Wa w Wz []) := hwa0
                  clear hwa0
                  go_wp2_with fail
                  go_loopw [37] (fun i wr => ∃ (j : Nat) (pre : List UInt8), j ≤ 32 ∧ i = .int .i64 j ∧ pre.length = j ∧ Hx.Mid (cut R) j pre ∧ Wa w wr pre) (fun i _ => 32 - lenOfI i)
                  case atStart => exact ⟨0, [], Nat.zero_le _, rfl, rfl, Hx.mid_zero _, HWA.out⟩
                  case round =>
                    obtain ⟨j, pre, hj, rfl, hpl, hmid, hwa⟩ := hrel
                    clear HWA
                    have HWA : Hid (Wa w wr pre) := hwa
                    have HMID : Hid (Hx.Mid (cut R) j pre) := hmid
                    clear hwa hmid
                    by_cases hlt : j < 32
                    · have hlti : (j : Int) < 32 := by omega
                      have HB : Hid (Below w.heap.size w wr) := HWA.out.below
                      obtain ⟨e1, he1⟩ : ∃ e, e = 2 * j := ⟨_, rfl⟩
                      have hq1 : 2 * (j : Int) = (e1 : Int) := by omega
                      have hq1b : (e1 : Int) < 64 := by omega
                      obtain ⟨e2, he2⟩ : ∃ e, e = 2 * j + 1 := ⟨_, rfl⟩
                      have hq2 : (e1 : Int) + 1 = (e2 : Int) := by omega
                      have hq2b : (e2 : Int) < 64 := by omega
                      obtain ⟨X1, hX1⟩ : ∃ x, x = R.xs e1 := ⟨_, rfl⟩
                      obtain ⟨X2, hX2⟩ : ∃ x, x = R.xs e2 := ⟨_, rfl⟩
                      have hd1 := HDATA.out e1 (by omega)
                      have hd2 := HDATA.out e2 (by omega)
                      have hr1 := HRNG.out e1 (by omega)
                      have hr2 := HRNG.out e2 (by omega)
                      rw [← hX1] at hd1 hr1
                      rw [← hX2] at hd2 hr2
                      have hbdl : R.bd < w.heap.size := World.block_lt_of_cell? w _ hd1
                      have cc1 : wr.cell? ⟨R.bd, e1, none⟩ = some (.int .u8 X1) := (HB.out.cell hbdl).trans hd1
                      have cc2 : wr.cell? ⟨R.bd, e2, none⟩ = some (.int .u8 X2) := (HB.out.cell hbdl).trans hd2
                      have HP1 : Hid ((cut R)[2 * j]? = some (UInt8.ofNat X1.toNat)) := by show _ = _; rw [HCUT.out, hX1, ← he1]; exact txt_get R 64 e1 (by omega)
                      have HP2 : Hid ((cut R)[2 * j + 1]? = some (UInt8.ofNat X2.toNat)) := by show _ = _; rw [HCUT.out, hX2, ← he2]; exact txt_get R 64 e2 (by omega)
                      obtain ⟨nv1, nv2⟩ := nib_v X1 hr1.1 hr1.2
                      obtain ⟨nu1, nu2⟩ := nib_v X2 hr2.1 hr2.2
                      have HV1 : Hid (nibOk X1 = true ↔ ¬ 15 < Hx.v (UInt8.ofNat X1.toNat)) := nv1
                      have HV2 : Hid (nibOk X1 = true → nibV X1 = (Hx.v (UInt8.ofNat X1.toNat) : Int)) := nv2
                      have HU1 : Hid (nibOk X2 = true ↔ ¬ 15 < Hx.v (UInt8.ofNat X2.toNat)) := nu1
                      have HU2 : Hid (nibOk X2 = true → nibV X2 = (Hx.v (UInt8.ofNat X2.toNat) : Int)) := nu2
                      have hcn1 := nib_any X1 hr1.1 hr1.2 wr
                      have hcn2 := nib_any X2 hr2.1 hr2.2 wr
                      clear hd1 hd2 nv1 nv2 nu1 nu2 hX1 hX2 he1 he2 hbdl
                      by_cases ho1 : nibOk X1 = true
                      · by_cases ho2 : nibOk X2 = true
                        · go_upto_region 58 with (first | (go_at_call 7; (with_reducible refine hcn1.mono ?_); rintro e w' ⟨rfl, hww⟩; rw [hww]; clear hww) | (go_at_call 7; (with_reducible refine hcn2.mono ?_); rintro e w' ⟨rfl, hww⟩; rw [hww]; clear hww))
                          obtain ⟨v0, hv0⟩ := HWA.out.cell (by omega)
                          rw [hpl] at hv0
                          have hfz := HWA.out.frozen j
                          go_wp2_with fail
                          go_roundw
                          case rel =>
                            obtain ⟨h1, hh1⟩ : ∃ n, n = Hx.v (UInt8.ofNat X1.toNat) := ⟨_, rfl⟩
                            obtain ⟨h2, hh2⟩ : ∃ n, n = Hx.v (UInt8.ofNat X2.toNat) := ⟨_, rfl⟩
                            have a1 := HV1.out.1 ho1
                            have a2 := HU1.out.1 ho2
                            have b1 := HV2.out ho1
                            have b2 := HU2.out ho2
                            have hm := Hx.mid_step HMID.out _ _ HP1.out HP2.out a1 a2
                            have hs := HWA.out.step (UInt8.ofNat (h1 * 16 + h2)) (by omega)
                            rw [← byte_bits h1 (by omega) h2 (by omega), hpl] at hs
                            rw [← hh1] at b1 hm
                            rw [← hh2] at b2 hm
                            rw [← b1, ← b2] at hs
                            exact ⟨j + 1, pre ++ [UInt8.ofNat (h1 * 16 + h2)], by omega, by go_num, by simp [hpl], hm, hs⟩
                          case measure => simp [lenOfI]; omega
                        · have ho2' : nibOk X2 = false := by simpa using ho2
                          clear ho2
                          have hb := HWA.out.below
                          have HKr1 : Hid (wr.rangeAt kb1 0 z32) := fun i v hv => (hb.cell (World.block_lt_of_cell? w _ (HK1.out i v hv))).trans (HK1.out i v hv)
                          have HKr0 : Hid (wr.rangeAt kb0 0 z32) := fun i v hv => (hb.cell (World.block_lt_of_cell? w _ (HK0.out i v hv))).trans (HK0.out i v hv)
                          have HBEL : Hid (Below w0.heap.size w0 wr) := HT.out.below.trans (hb.mono HT.out.below.size)
                          clear hb
                          go_wp2_with (first | (go_at_call 7; (with_reducible refine hcn1.mono ?_); rintro e w' ⟨rfl, hww⟩; rw [hww]; clear hww) | (go_at_call 7; (with_reducible refine hcn2.mono ?_); rintro e w' ⟨rfl, hww⟩; rw [hww]; clear hww) | ((with_reducible apply wpList_load_mid (ty := 31) (x := .tmp 30) (cs := z32) (hu := Ybaf.underlying31)); rfl; rfl; rfl; exact HKr1.out; rfl; exact z32_size) | ((with_reducible apply wpList_load_mid (ty := 31) (x := .tmp 32) (cs := z32) (hu := Ybaf.underlying31)); rfl; rfl; rfl; exact HKr0.out; rfl; exact z32_size))
                          rw [HQ.out]
                          go_ret
                          exact ⟨rfl, HBEL.out⟩
                      · have ho1' : nibOk X1 = false := by simpa using ho1
                        clear ho1
                        have hb := HWA.out.below
                        have HKr1 : Hid (wr.rangeAt kb1 0 z32) := fun i v hv => (hb.cell (World.block_lt_of_cell? w _ (HK1.out i v hv))).trans (HK1.out i v hv)
                        have HKr0 : Hid (wr.rangeAt kb0 0 z32) := fun i v hv => (hb.cell (World.block_lt_of_cell? w _ (HK0.out i v hv))).trans (HK0.out i v hv)
                        have HBEL : Hid (Below w0.heap.size w0 wr) := HT.out.below.trans (hb.mono HT.out.below.size)
                        clear hb
                        go_wp2_with (first | (go_at_call 7; (with_reducible refine hcn1.mono ?_); rintro e w' ⟨rfl, hww⟩; rw [hww]; clear hww) | (go_at_call 7; (with_reducible refine hcn2.mono ?_); rintro e w' ⟨rfl, hww⟩; rw [hww]; clear hww) | ((with_reducible apply wpList_load_mid (ty := 31) (x := .tmp 30) (cs := z32) (hu := Ybaf.underlying31)); rfl; rfl; rfl; exact HKr1.out; rfl; exact z32_size) | ((with_reducible apply wpList_load_mid (ty := 31) (x := .tmp 32) (cs := z32) (hu := Ybaf.underlying31)); rfl; rfl; rfl; exact HKr0.out; rfl; exact z32_size))
                        rw [HQ.out]
                        go_ret
                        exact ⟨rfl, HBEL.out⟩
                    · exfalso
                      obtain rfl : j = 32 := by omega
                      have hd := Hx.mid_end HMID.out (by have := HCL.out; omega)
                      exact hg ⟨hL65, HCL.out, by rw [hd]⟩
                · have h64i : ¬ ((M : Int) = 64) := by omega
                  go_wp2_with (first | ((with_reducible apply wpList_load_mid (ty := 31) (x := .tmp 30) (cs := z32) (hu := Ybaf.underlying31)); rfl; rfl; rfl; exact HK1.out; rfl; exact z32_size) | ((with_reducible apply wpList_load_mid (ty := 31) (x := .tmp 32) (cs := z32) (hu := Ybaf.underlying31)); rfl; rfl; rfl; exact HK0.out; rfl; exact z32_size))
                  rw [HQ.out]
                  go_ret
                  exact ⟨rfl, HT.out.below⟩
end Go.Proofs.YbulkebzoFmt
