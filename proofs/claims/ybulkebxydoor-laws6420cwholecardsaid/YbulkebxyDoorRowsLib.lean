import Derived.Test.YbulkebxyDoorInf
namespace Go.Proofs.YbulkebxyDoor
open Go.ChangeShapes Go.WideShapes Go.ChangeAt Go.RowKit
set_option linter.unusedVariables false
set_option linter.unusedSimpArgs false

/-- The two rows that the law lays: k records in each so far. -/
def TwoRows (N : Nat) (ra sa : Option Addr) (n k : Nat) (rows : Nat → DsRow) (wr : World) : Prop :=
  n = 0 ∨ ∃ R S, ra = some ⟨R, 0, none⟩ ∧ sa = some ⟨S, 0, none⟩ ∧ R ≠ S ∧ N ≤ R ∧ N ≤ S ∧ R < wr.heap.size ∧ S < wr.heap.size ∧ wr.there R 0 (n * 8) ∧ wr.there S 0 (n * 8) ∧
    (∀ i, i < k → wr.rangeAt R (i * 8) (rowCells (rows i))) ∧ ∀ i, i < k → wr.rangeAt S (i * 8) (rowCells (rows i))

theorem there_of {w : World} {base g n cap : Nat} {xs : List Value} (h : w.ownsRow base 30 8 (.slice (some ⟨g, 0, none⟩) n cap) n xs) : w.there g 0 (n * 8) := by
  intro j hj
  rw [Nat.zero_add, h.cellAt j hj]
  refine ⟨?_, h.frozenAt j⟩
  rw [List.getElem?_eq_getElem (by rw [h.1]; exact hj)]
  rfl
theorem there_below {w w' : World} {b o n : Nat} (h : w.there b o n) (hb : Below w.heap.size w w') (hl : b < w.heap.size) : w'.there b o n := by
  intro j hj
  have := h j hj
  rw [hb.cell (by exact hl), hb.frozen (by exact hl)]
  exact this
theorem range_below {w w' : World} {b o : Nat} {cs : List Value} (h : w.rangeAt b o cs) (hb : Below w.heap.size w w') : w'.rangeAt b o cs := fun j v hv => by
  have := h j v hv
  exact (hb.cell (World.block_lt_of_cell? w _ this)).trans this
theorem there_sub {w : World} {b n k : Nat} (h : w.there b 0 (n * 8)) (hk : k < n) : w.there b (k * 8) 8 := fun j hj => by
  have := h (k * 8 + j) (by omega)
  simpa using this

theorem TwoRows.below {N n k : Nat} {ra sa : Option Addr} {rows : Nat → DsRow} {w w' : World} (h : TwoRows N ra sa n k rows w) (hb : Below w.heap.size w w') : TwoRows N ra sa n k rows w' := by
  rcases h with h | ⟨R, S, e1, e2, hne, l1, l2, s1, s2, t1, t2, r1, r2⟩
  · exact .inl h
  · exact .inr ⟨R, S, e1, e2, hne, l1, l2, Nat.lt_of_lt_of_le s1 hb.size, Nat.lt_of_lt_of_le s2 hb.size, there_below t1 hb s1, there_below t2 hb s2, fun i hi => range_below (r1 i hi) hb, fun i hi => range_below (r2 i hi) hb⟩

/-- Both stores of one round. -/
theorem TwoRows.store {N n k R S : Nat} {rows : Nat → DsRow} {w : World} (hk : k < n) (hne : R ≠ S) (l1 : N ≤ R) (l2 : N ≤ S) (s1 : R < w.heap.size) (s2 : S < w.heap.size) (t1 : w.there R 0 (n * 8)) (t2 : w.there S 0 (n * 8))
    (r1 : ∀ i, i < k → w.rangeAt R (i * 8) (rowCells (rows i))) (r2 : ∀ i, i < k → w.rangeAt S (i * 8) (rowCells (rows i))) :
    TwoRows N (some ⟨R, 0, none⟩) (some ⟨S, 0, none⟩) n (k + 1) rows ((w.setCells R (k * 8) (rowCells (rows k))).setCells S (k * 8) (rowCells (rows k))) := by
  have sz : ∀ (w : World) (b o : Nat) (vs : List Value), w.heap.size ≤ (w.setCells b o vs).heap.size := by
    intro w b o vs
    induction vs generalizing w o with
    | nil => exact Nat.le_refl _
    | cons v r ih => exact Nat.le_trans (by simp [World.setCell]) (ih _ _)
  have hl : (rowCells (rows k)).length = 8 := rfl
  have hll : ∀ i, (rowCells (rows i)).length = 8 := fun i => rfl
  refine .inr ⟨R, S, rfl, rfl, hne, l1, l2, ?_, ?_, World.there_setCells (World.there_setCells t1 _ _ _) _ _ _, World.there_setCells (World.there_setCells t2 _ _ _) _ _ _, ?_, ?_⟩
  · have := sz w R (k * 8) (rowCells (rows k)); have := sz (w.setCells R (k * 8) (rowCells (rows k))) S (k * 8) (rowCells (rows k)); omega
  · have := sz w R (k * 8) (rowCells (rows k)); have := sz (w.setCells R (k * 8) (rowCells (rows k))) S (k * 8) (rowCells (rows k)); omega
  · intro i hi
    refine World.rangeAt_setCells_apart ?_ _ _ _ (.inl hne)
    by_cases e : i = k
    · subst e; exact World.rangeAt_setCells_same _ _ _ _ (by rw [hl]; exact there_sub t1 hk)
    · exact World.rangeAt_setCells_apart (r1 i (by omega)) _ _ _ (.inr (by rw [hll, hl]; omega))
  · intro i hi
    by_cases e : i = k
    · subst e; exact World.rangeAt_setCells_same _ _ _ _ (by rw [hl]; exact there_sub (World.there_setCells t2 _ _ _) hk)
    · refine World.rangeAt_setCells_apart (World.rangeAt_setCells_apart (r2 i (by omega)) _ _ _ (.inl (Ne.symm hne))) _ _ _ (.inr (by rw [hll, hl]; omega))

theorem two_round {N n k R S : Nat} {rows : Nat → DsRow} {w : World} {r : DsRow} (o1 o2 : Obj) (hr : rows k = r) (hk : k < n) (hne : R ≠ S) (l1 : N ≤ R) (l2 : N ≤ S) (s1 : R < w.heap.size) (s2 : S < w.heap.size) (t1 : w.there R 0 (n * 8)) (t2 : w.there S 0 (n * 8))
    (r1 : ∀ i, i < k → w.rangeAt R (i * 8) (rowCells (rows i))) (r2 : ∀ i, i < k → w.rangeAt S (i * 8) (rowCells (rows i))) :
    TwoRows N (some ⟨R, 0, none⟩) (some ⟨S, 0, none⟩) n (k + 1) rows ((((w.alloc o1).alloc o2).setCells R (k * 8) [.int .u16 r.kt, .int .u8 r.alg, .int .u8 r.dt, .string r.dg, .int .u16 r.fl, .int .u8 r.pr, .int .u8 r.ka, .string r.pk]).setCells S (k * 8) [.int .u16 r.kt, .int .u8 r.alg, .int .u8 r.dt, .string r.dg, .int .u16 r.fl, .int .u8 r.pr, .int .u8 r.ka, .string r.pk]) := by
  subst hr
  have hb : Below w.heap.size w ((w.alloc o1).alloc o2) := ((Below.refl _ _).alloc (Nat.le_refl _) _).alloc (by simp) _
  exact TwoRows.store hk hne l1 l2 (Nat.lt_of_lt_of_le s1 hb.size) (Nat.lt_of_lt_of_le s2 hb.size) (there_below t1 hb s1) (there_below t2 hb s2) (fun i hi => range_below (r1 i hi) hb) (fun i hi => range_below (r2 i hi) hb)

theorem range_new (w : World) (r : DsRow) (o1 : Obj := .cells #[.int .u16 r.kt, .int .u8 r.alg, .int .u8 r.dt, .string r.dg, .int .u16 r.fl, .int .u8 r.pr, .int .u8 r.ka, .string r.pk] 26) : ((w.alloc o1).alloc (.cells #[.int .u16 r.kt, .int .u8 r.alg, .int .u8 r.dt, .string r.dg, .int .u16 r.fl, .int .u8 r.pr, .int .u8 r.ka, .string r.pk] 30)).rangeAt (w.heap.size + 1) 0 [.int .u16 r.kt, .int .u8 r.alg, .int .u8 r.dt, .string r.dg, .int .u16 r.fl, .int .u8 r.pr, .int .u8 r.ka, .string r.pk] := by
  intro j v hv
  have h := World.cell?_alloc_new (w.alloc o1) #[.int .u16 r.kt, .int .u8 r.alg, .int .u8 r.dt, .string r.dg, .int .u16 r.fl, .int .u8 r.pr, .int .u8 r.ka, .string r.pk] 30 (0 + j)
  have hs : (w.alloc o1).heap.size = w.heap.size + 1 := by simp
  rw [hs] at h
  rw [h, Nat.zero_add]
  simpa using hv

theorem rowsAt_two {N n : Nat} {ra sa : Option Addr} {rows : Nat → DsRow} {w : World} (h : TwoRows N ra sa n n rows w) (hok : ∀ i, i < n → (rows i).ok) : RowsAt w ra n rows := by
  intro i hi
  rcases h with h | ⟨R, S, e1, e2, hne, l1, l2, s1, s2, t1, t2, r1, r2⟩
  · omega
  · exact ⟨hok i hi, R, 0, e1, by rw [Nat.zero_add]; exact r1 i hi⟩

/-- The two rows, n > 0. -/
def Two (R S n k : Nat) (rows : Nat → DsRow) (wr : World) : Prop :=
  R ≠ S ∧ R < wr.heap.size ∧ S < wr.heap.size ∧ wr.there R 0 (n * 8) ∧ wr.there S 0 (n * 8) ∧ (∀ i, i < k → wr.rangeAt R (i * 8) (rowCells (rows i))) ∧ ∀ i, i < k → wr.rangeAt S (i * 8) (rowCells (rows i))
theorem Two.below {R S n k : Nat} {rows : Nat → DsRow} {w w' : World} (h : Two R S n k rows w) (hb : Below w.heap.size w w') : Two R S n k rows w' := by
  obtain ⟨hne, s1, s2, t1, t2, r1, r2⟩ := h
  exact ⟨hne, Nat.lt_of_lt_of_le s1 hb.size, Nat.lt_of_lt_of_le s2 hb.size, there_below t1 hb s1, there_below t2 hb s2, fun i hi => range_below (r1 i hi) hb, fun i hi => range_below (r2 i hi) hb⟩
theorem two_round' {n k R S : Nat} {rows : Nat → DsRow} {w : World} {r : DsRow} (o1 o2 : Obj) (hr : rows k = r) (hk : k < n) (h : Two R S n k rows w) :
    Two R S n (k + 1) rows ((((w.alloc o1).alloc o2).setCells R (k * 8) [.int .u16 r.kt, .int .u8 r.alg, .int .u8 r.dt, .string r.dg, .int .u16 r.fl, .int .u8 r.pr, .int .u8 r.ka, .string r.pk]).setCells S (k * 8) [.int .u16 r.kt, .int .u8 r.alg, .int .u8 r.dt, .string r.dg, .int .u16 r.fl, .int .u8 r.pr, .int .u8 r.ka, .string r.pk]) := by
  obtain ⟨hne, s1, s2, t1, t2, r1, r2⟩ := h
  rcases two_round (N := 0) o1 o2 hr hk hne (Nat.zero_le _) (Nat.zero_le _) s1 s2 t1 t2 r1 r2 with h | ⟨R', S', e1, e2, a1, _, _, a2, a3, a4, a5, a6, a7⟩
  · omega
  · cases e1; cases e2
    exact ⟨a1, a2, a3, a4, a5, a6, a7⟩
theorem rowsAt_two' {R S n : Nat} {rows : Nat → DsRow} {w : World} (h : Two R S n n rows w) (hok : ∀ i, i < n → (rows i).ok) : RowsAt w (some ⟨R, 0, none⟩) n rows := by
  intro i hi
  exact ⟨hok i hi, R, 0, rfl, by rw [Nat.zero_add]; exact h.2.2.2.2.2.1 i hi⟩

theorem range_all (w : World) (cs : List Value) (t : TypeId) : (w.alloc (.cells cs.toArray t)).rangeAt w.heap.size 0 cs := by
  intro j v hv
  rw [World.cell?_alloc_new, Nat.zero_add]
  simpa using hv
theorem size41 : (Ybad.prog.info? 41).map (·.size) = some 23 := by kernel_rfl

theorem inf_drewN {w wr : World} {I off k : Nat} {msl : Int} {rows : Nat → DsRow} {v : Value} {xs : List Value} (h : Inf w I off k msl rows v xs wr) (q : Nat) : Inf w I off k msl rows v xs (wr.drewN q) :=
  ⟨h.c0, h.c1, h.c2, h.c3, h.c4, h.f3, h.own, h.first, h.els, h.below.trans ⟨rfl, rfl, rfl, Nat.le_refl _, fun _ _ => rfl⟩, h.size, h.lo⟩
theorem off_start {Y : World} {I g bf : Nat} {u : Value} (h1 : Y.cell? ⟨I, 3, none⟩ = some u) (h2 : Y.cell? ⟨g, 0, none⟩ = some (.pointer (some ⟨bf, 0, none⟩))) : Below Y.heap.size Y Y.drew ∧ Y.drew.cell? ⟨I, 3, none⟩ = some u ∧ Y.drew.cell? ⟨g, 0, none⟩ = some (.pointer (some ⟨bf, 0, none⟩)) :=
  ⟨(Below.refl _ _).drew, by simpa using h1, by simpa using h2⟩
theorem off_below {Y w1 w2 : World} {p q : Addr} {u v : Value} (hb : Below w1.heap.size w1 w2) (h : Below Y.heap.size Y w1 ∧ w1.cell? p = some u ∧ w1.cell? q = some v) : Below Y.heap.size Y w2 ∧ w2.cell? p = some u ∧ w2.cell? q = some v :=
  ⟨h.1.trans (hb.mono h.1.size), (hb.cell (World.block_lt_of_cell? w1 _ h.2.1)).trans h.2.1, (hb.cell (World.block_lt_of_cell? w1 _ h.2.2)).trans h.2.2⟩
theorem wrap_u64 {n : Int} (h0 : 0 ≤ n) (h1 : n ≤ 9223372036854775807) : IntKind.u64.wrap n = n := by
  simp [IntKind.wrap, IntKind.signed, IntKind.bits]
  omega

theorem RowsAt.below' {w wr : World} {da : Option Addr} {n : Nat} {rows : Nat → DsRow} (h : RowsAt w da n rows) (hb : Below w.heap.size w wr) : RowsAt wr da n rows := h.below hb

theorem citoa_int (n : Int) (w : World) (h0 : 0 ≤ n) (h1 : n ≤ 9223372036854775807) : Calls Ybad.prog 6 #[.int .u64 n] w (Said ⟨(Lib.decDigits n.toNat).toArray⟩ w) := by
  obtain ⟨u, rfl⟩ := Int.eq_ofNat_of_zero_le h0
  rw [Int.toNat_natCast]
  exact citoa_any u (by omega) w

theorem s48_start {wr : World} {be cb : Nat} {v3 p0 p1 p2 p3 : Value} (x0 x1 x2 x3 : Value) (rest : List Value) (m3 : wr.cell? ⟨be, 3, none⟩ = some v3) (j0 : wr.cell? ⟨cb, 0, none⟩ = some p0) (j1 : wr.cell? ⟨cb, 1, none⟩ = some p1) (j2 : wr.cell? ⟨cb, 2, none⟩ = some p2) (j3 : wr.cell? ⟨cb, 3, none⟩ = some p3) :
    Below wr.heap.size wr (wr.alloc (.cells (x0 :: x1 :: x2 :: x3 :: rest).toArray 26)).drew ∧ (wr.alloc (.cells (x0 :: x1 :: x2 :: x3 :: rest).toArray 26)).drew.cell? ⟨be, 3, none⟩ = some v3 ∧ (wr.alloc (.cells (x0 :: x1 :: x2 :: x3 :: rest).toArray 26)).drew.cell? ⟨cb, 0, none⟩ = some p0 ∧ (wr.alloc (.cells (x0 :: x1 :: x2 :: x3 :: rest).toArray 26)).drew.cell? ⟨cb, 1, none⟩ = some p1 ∧ (wr.alloc (.cells (x0 :: x1 :: x2 :: x3 :: rest).toArray 26)).drew.cell? ⟨cb, 2, none⟩ = some p2 ∧ (wr.alloc (.cells (x0 :: x1 :: x2 :: x3 :: rest).toArray 26)).drew.cell? ⟨cb, 3, none⟩ = some p3 ∧
    (wr.alloc (.cells (x0 :: x1 :: x2 :: x3 :: rest).toArray 26)).drew.cell? ⟨wr.heap.size, 0, none⟩ = some x0 ∧ (wr.alloc (.cells (x0 :: x1 :: x2 :: x3 :: rest).toArray 26)).drew.cell? ⟨wr.heap.size, 1, none⟩ = some x1 ∧ (wr.alloc (.cells (x0 :: x1 :: x2 :: x3 :: rest).toArray 26)).drew.cell? ⟨wr.heap.size, 2, none⟩ = some x2 ∧ (wr.alloc (.cells (x0 :: x1 :: x2 :: x3 :: rest).toArray 26)).drew.cell? ⟨wr.heap.size, 3, none⟩ = some x3 := by
  have hb : Below wr.heap.size wr (wr.alloc (.cells (x0 :: x1 :: x2 :: x3 :: rest).toArray 26)).drew := ((Below.refl _ _).alloc (Nat.le_refl _) _).drew
  have k : ∀ {p : Addr} {v : Value}, wr.cell? p = some v → (wr.alloc (.cells (x0 :: x1 :: x2 :: x3 :: rest).toArray 26)).drew.cell? p = some v := fun h => (hb.cell (World.block_lt_of_cell? wr _ h)).trans h
  exact ⟨hb, k m3, k j0, k j1, k j2, k j3, by simp, by simp, by simp, by simp⟩
theorem s48_below {wr w1 w2 : World} {p1 p2 p3 p4 p5 p6 p7 p8 p9 : Addr} {v1 v2 v3 v4 v5 v6 v7 v8 v9 : Value} (hb : Below w1.heap.size w1 w2)
    (h : Below wr.heap.size wr w1 ∧ w1.cell? p1 = some v1 ∧ w1.cell? p2 = some v2 ∧ w1.cell? p3 = some v3 ∧ w1.cell? p4 = some v4 ∧ w1.cell? p5 = some v5 ∧ w1.cell? p6 = some v6 ∧ w1.cell? p7 = some v7 ∧ w1.cell? p8 = some v8 ∧ w1.cell? p9 = some v9) :
    Below wr.heap.size wr w2 ∧ w2.cell? p1 = some v1 ∧ w2.cell? p2 = some v2 ∧ w2.cell? p3 = some v3 ∧ w2.cell? p4 = some v4 ∧ w2.cell? p5 = some v5 ∧ w2.cell? p6 = some v6 ∧ w2.cell? p7 = some v7 ∧ w2.cell? p8 = some v8 ∧ w2.cell? p9 = some v9 := by
  obtain ⟨h0, h1, h2, h3, h4, h5, h6, h7, h8, h9⟩ := h
  have k : ∀ {p : Addr} {v : Value}, w1.cell? p = some v → w2.cell? p = some v := fun h => (hb.cell (World.block_lt_of_cell? w1 _ h)).trans h
  exact ⟨h0.trans (hb.mono h0.size), k h1, k h2, k h3, k h4, k h5, k h6, k h7, k h8, k h9⟩

theorem below_setCells {B : Nat} {a w : World} (h : Below B a w) {b : Nat} (hb : B ≤ b) : ∀ (vs : List Value) (o : Nat) , Below B a (w.setCells b o vs) := by
  intro vs
  induction vs generalizing w with
  | nil => intro o; exact h
  | cons v r ih => intro o; exact ih (h.setCell (p := ⟨b, o, none⟩) hb v) (o + 1)

theorem p22 (w : World) (a : Option Addr) (n c n' c' : Nat) : (binOp .neq 22 (.slice a n c) (.slice none n' c')).run Ybad.prog w = .ok (.bool (!a.isNone)) w := run_neq_slice_nil_any w _ _ a n c n' c' Ybad.underlying22
theorem size26 : (Ybad.prog.info? 26).map (·.size) = some 8 := by kernel_rfl
theorem info30 : (Ybad.prog.info? 30).map (fun i => (i.zero, i.size, i.bytes)) = some (some (.agg #[.int .u16 0, .int .u8 0, .int .u8 0, .string ⟨#[]⟩, .int .u16 0, .int .u8 0, .int .u8 0, .string ⟨#[]⟩]), 8, 48) := by kernel_rfl

end Go.Proofs.YbulkebxyDoor
