/-
  'Rows.LawS6421BWholeSaid': the law's walk (YbulkebymAckedWalk) lifted to the row: the frame of the guide's shells, the first argument opened as a slice of slices (Derived/Deep/Matrix), each slice's length bounded by the form's reach.
-/
import Derived.Test.YbulkebymAckedWalk
import Derived.OpenShut
import Derived.ShutString
import Derived.ChangeOld
import Derived.SizedLaws
import Derived.Deep.Matrix
namespace Go.Proofs.Ybulkebym.lawS6421BWhole
open Go.ChangeShapes Go.WideShapes Go.ChangeAt Go.RowKit Go.Deep
set_option linter.unusedVariables false

theorem own : ownKnob Yba.prog.godebug = none := by kernel_rfl
theorem laidOut : laidOutB Yba.prog = true := by kernel_rfl
theorem bytes94 : Yba.prog.bytesOf 94 = 8 := by kernel_rfl
theorem bytes83 : Yba.prog.bytesOf 83 = 24 := by kernel_rfl

theorem weights_mem_all {H : Type} {P : Program} {e : TypeId} : ∀ {ds : List (DataW H)} {d : DataW H}, d ∈ ds → ∀ n ∈ d.weights P e, n ∈ DataW.weightsAll P e ds
  | [], _, h, _, _ => by cases h
  | d0 :: ds, d, h, n, hn => by
    simp only [DataW.weightsAll, List.mem_append]
    rcases List.mem_cons.1 h with rfl | h
    · exact .inl hn
    · exact .inr (weights_mem_all h n hn)

/-- An inner slice's bytes. -/
theorem sized_inner {H : Type} {P : Program} {ts : List TypeId} {ds : List (DataW H)} (h : (DataW.weightsEach P ts ds).all (· ≤ reachBytes) = true) {j : Nat} {t e q : TypeId} {elems spare es sp : List (DataW H)} (ht : ts[j]? = some t) (hd : ds[j]? = some (.slice elems spare)) (hu : P.underlying t = some (.slice e))
    (hm : .slice es sp ∈ elems) (hq : P.underlying e = some (.slice q)) : (es.length + sp.length) * P.bytesOf q ≤ reachBytes := by
  have := List.all_eq_true.1 h _ (DataW.weights_mem_each ht hd ((es.length + sp.length) * P.bytesOf q) (by
    simp only [DataW.weights, hu, List.mem_cons, List.mem_append]
    refine .inr (.inl (weights_mem_all hm _ ?_))
    simp [DataW.weights, hq]))
  simpa using this

theorem addr_of_cell {w : World} {x : Addr} {v : Value} (h : w.cell? (x.add 0) = some v) : ∃ b o, x = ⟨b, o, none⟩ := by
  obtain ⟨b, o, s⟩ := x
  have hs : s = none := by simpa [Addr.add] using World.cell?_spot h
  subst hs
  exact ⟨b, o, rfl⟩

/-- A slice of uint64, out of its cells. -/
theorem u64s_of {w : World} {a : Option Addr} {n c : Nat} {zs : List Int} (hl : n ≤ c) (hz : zs.length = c) (hw : ∀ n ∈ zs, (Lit.int .u64 n).wf = true) (hn : a = none → c = 0) (hc : ∀ a', a = some a' → ∀ i, i < c → w.cell? (a'.add i) = some (.int .u64 (zs.getD i 0))) :
    U64s (fun b => b < w.heap.size) w a n (fun i => zs.getD i 0) := by
  intro j hj
  cases a with
  | none => have := hn rfl; omega
  | some x =>
    obtain ⟨b, o, rfl⟩ := addr_of_cell (hc x rfl 0 (by omega))
    have hcell := hc _ rfl j (by omega)
    rw [Addr.add_mid] at hcell
    have hb : 0 ≤ zs.getD j 0 ∧ zs.getD j 0 ≤ 18446744073709551615 := bounds_u64 (hw _ (by simp [List.getD, show j < zs.length by omega]))
    exact ⟨b, o, rfl, World.block_lt_of_cell? w _ hcell, hcell, hb⟩

set_option maxRecDepth 100000 in
theorem lifted (os : Os) (started : os.Started) (H : Type) (enc : TypeId × Value → H) :
    ReturnsInHanded {} Yba.checked os 4 .any (Rows.lawS6421BWholeSpec.pre6 enc Yba.prog Yba.f4 Rows.lawS6421BWholeRow.domain false) (Rows.lawS6421BWholeSpec.post enc Yba.prog Yba.f4 false true false false) := by
  refine returnsInHanded_of_change_sized (C := Yba.checked) own started (by kernel_rfl) Yba.func4
    (ChangeSpec.witness6 (enc := enc) (C := Yba.checked) false ⟨#[], #[.slice none 0 0, .slice none 0 0], []⟩ 8 (by kernel_rfl) (by kernel_rfl) (by kernel_rfl) (by kernel_rfl)) ?_
  intro W base args ds gs before hval0 hW hcnd hsz0 _
  have hsz : (DataW.weightsEach Yba.prog (Yba.f4.params.toList ++ Rows.lawS6421BWholeSpec.plain.varTypes Yba.prog) (ds ++ gs)).all (· ≤ reachBytes) = true := hsz0
  clear hsz0
  have hval : ∀ (j : Nat) t v, Yba.f4.params[j]? = some t → args[j]? = some v → Value.okWide Yba.prog W .any base t v := hval0
  have hW' := hW
  obtain ⟨p, q, hA0, hV, rfl, hfz, hnd⟩ := hW
  have hA : DataW.TrodAll enc Yba.prog W 0 (fun _ => true) true Yba.f4.params.toList args.toList ds p := hA0
  rw [Yba.params4] at hA hval hsz
  obtain ⟨v0, vs0, d0, ds0, p0, q0, hargs, rfl, rfl, h0, r0⟩ := trodAll_cons hA
  obtain ⟨v1, vs1, d1, ds1, p1, q1, rfl, rfl, rfl, h1, r1⟩ := trodAll_cons r0
  obtain ⟨rfl, rfl, rfl⟩ := trodAll_nil r1
  obtain rfl : args = #[v0, v1] := by cases args; simp_all
  obtain ⟨rfl, rfl⟩ := trodVars_none hV
  obtain ⟨a0, n, c0, rfl⟩ := okWide_slice Yba.underlying82 (hval 0 82 v0 rfl rfl)
  have k0 := h0
  have lt0 : ∀ x ∈ p0, x.block < W.heap.size := by obtain ⟨m, hm⟩ := k0; exact DataW.trod_lt m _ _ _ hm
  obtain ⟨A, L, C, F, s0, n0, b0, l0⟩ : ∃ (A : Nat → Option Addr) (L C : Nat → Nat) (F : Nat → Nat → Int), Stamps (fun b => b < W.heap.size) W a0 n A L C F ∧ (a0 = none → n = 0) ∧ n ≤ 140737488355328 ∧ ∀ i, i < n → L i ≤ 140737488355328 := by
    obtain ⟨fuel, hf⟩ := h0
    rcases open_int_rows Yba.underlying82 Yba.underlying83 Yba.underlying94 (by kernel_rfl) (by kernel_rfl) hf with ⟨hcs, _⟩ | ⟨x, l, c, A, L, C, Z, hcs, _, hl, hm, hx, hr⟩
    · simp [Value.cells] at hcs
      obtain ⟨rfl, rfl, rfl⟩ := hcs
      exact ⟨fun _ => none, fun _ => 0, fun _ => 0, fun _ _ => 0, fun i hi => absurd hi (Nat.not_lt_zero _), fun _ => rfl, by omega, fun i hi => absurd hi (Nat.not_lt_zero _)⟩
    · simp [Value.cells] at hcs
      obtain ⟨rfl, rfl, rfl⟩ := hcs
      simp only [Prod.mk.injEq] at hx
      have hb := sized_slice hsz (j := 0) (t := 82) (e := 83) rfl (by rw [hx.1]; rfl) Yba.underlying82
      rw [bytes83] at hb
      simp only [List.length_map, List.length_range, reachBytes] at hb
      refine ⟨A, L, C, fun r i => (Z r).getD i 0, fun i hi => ?_, (fun h => by cases h), by omega, fun i hi => ?_⟩
      · obtain ⟨hc, r1, r2, r3, r4, r5, r6⟩ := hr i (by omega)
        obtain ⟨b, o, rfl⟩ := addr_of_cell (hr 0 (by omega)).1
        rw [Addr.add_mid] at hc
        exact ⟨⟨b, o, rfl, hc⟩, u64s_of r1 r3 r4 r5 (fun a' ha => (r6 a' ha).2)⟩
      · obtain ⟨hc, r1, r2, r3, r4, r5, r6⟩ := hr i (by omega)
        cases hAi : A i with
        | none => have := r5 hAi; omega
        | some y =>
          have hmem : (.slice (lits .u64 ((Z i).take (L i))) (lits .u64 ((Z i).drop (L i))) : DataW H) ∈ (List.range n).map fun r => intRow .u64 (A r) (L r) (Z r) :=
            List.mem_map.2 ⟨i, List.mem_range.2 hi, by simp [intRow, hAi]⟩
          have hb2 := sized_inner hsz (j := 0) (t := 82) (e := 83) rfl (by rw [hx.1]; rfl) Yba.underlying82 hmem Yba.underlying83
          rw [bytes94] at hb2
          simp only [lits, List.length_map, List.length_take, List.length_drop, reachBytes] at hb2
          omega
  obtain ⟨a1, m, c1, rfl⟩ := okWide_slice Yba.underlying83 (hval 1 83 v1 rfl rfl)
  have k1 := h1
  have lt1 : ∀ x ∈ p1, x.block < W.heap.size := by obtain ⟨m, hm⟩ := k1; exact DataW.trod_lt m _ _ _ hm
  obtain ⟨g, s1, b1⟩ : ∃ g : Nat → Int, U64s (fun b => b < W.heap.size) W a1 m g ∧ m ≤ 140737488355328 := by
    obtain ⟨fuel, hf⟩ := h1
    rcases open_ints Yba.underlying83 Yba.underlying94 (by kernel_rfl) hf with ⟨hcs, _⟩ | ⟨x, l, c, zs, hcs, _, hl, hm, hz, hx, hcell, hwz⟩
    · simp [Value.cells] at hcs
      obtain ⟨rfl, rfl, rfl⟩ := hcs
      exact ⟨fun _ => 0, fun i hi => absurd hi (Nat.not_lt_zero _), by omega⟩
    · simp [Value.cells] at hcs
      obtain ⟨rfl, rfl, rfl⟩ := hcs
      simp only [Prod.mk.injEq] at hx
      have hb := sized_slice hsz (j := 1) (t := 83) (e := 94) rfl (by rw [hx.1]; rfl) Yba.underlying83
      rw [bytes94] at hb
      simp only [lits, List.length_map, List.length_take, List.length_drop, reachBytes] at hb
      have hz' : zs.length = _ := hz
      simp at hz'
      exact ⟨fun i => zs.getD i 0, u64s_of (c := zs.length) (by omega) rfl hwz (fun h => by cases h) (fun a' ha i hi => by cases ha; exact hcell i hi), by omega⟩
  clear hA0 hval0
  refine (walk a0 a1 n c0 m c1 A L C F g W s0 s1 n0 b0 b1 l0).mono fun e W' ⟨he, bel⟩ => ?_
  subst he
  exact ⟨_, rfl, _, _, _, [], _, [], hW', trodAll_mk1 (shut_bool Yba.underlying4 _), (trodAll_cons_mk (Below.trod laidOut (by kernel_rfl) (of_decide_eq_true (by kernel_rfl)) k0 bel lt0) (trodAll_cons_mk (Below.trod laidOut (by kernel_rfl) (of_decide_eq_true (by kernel_rfl)) k1 bel lt1) trodAll_mk0)), rfl, bel.frame _, fun h => by cases h⟩

theorem over : Rows.lawS6421BWholeRow.holds Yba.pinned (OpenSpec.ofChange Rows.lawS6421BWholeSpec) :=
  OpenClaim.holds_of_wide 4 Yba.f4 rfl rfl rfl rfl rfl rfl rfl ⟨rfl, rfl, rfl, rfl, rfl⟩ rfl rfl rfl rfl rfl (by kernel_rfl) Yba.func4 (by kernel_rfl)
    (of_decide_eq_true (by kernel_rfl)) (by unfold Func.isWrapper; first | (rw [if_pos (by decide +kernel)]; kernel_rfl) | (rw [if_neg (by decide +kernel)]; exact ⟨rfl, rfl⟩))
    (fun os started H enc _ => lifted os started H enc)

/-- THE STATEMENT -/
theorem proved : Rows.LawS6421BWholeSaid := over
#print axioms proved
end Go.Proofs.Ybulkebym.lawS6421BWhole
