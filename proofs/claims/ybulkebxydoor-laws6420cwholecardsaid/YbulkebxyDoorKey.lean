import Derived.Test.YbulkebxyDoorItoa
import Derived.WalkSmall
namespace Go.Proofs.YbulkebxyDoor
open Go.ChangeShapes Go.WideShapes Go.ChangeAt Go.RowKit
set_option linter.unusedVariables false

theorem Txt.same {w w' : World} {b : Nat} {loc txt : ByteArray} (h : Txt w b loc txt) (hb : w'.heap[b]? = w.heap[b]?) : Txt w' b loc txt := by
  obtain ⟨h0, h1, h2, h3, h4⟩ := h
  refine ⟨?_, ?_, ?_, ?_, ?_⟩ <;> (rw [World.cell?_of_block (w := w) (w' := w') hb]; assumption)

theorem Txt.lt {w : World} {b : Nat} {loc txt : ByteArray} (h : Txt w b loc txt) : b < w.heap.size := World.block_lt_of_cell? w _ h.1

theorem Txt.below {w w' : World} {b : Nat} {loc txt : ByteArray} (h : Txt w b loc txt) (hb : Below w.heap.size w w') : Txt w' b loc txt := h.same (hb.block b h.lt)

theorem txt_new (w : World) (loc txt : ByteArray) : Txt (w.alloc (.cells #[.string ⟨#[117, 114, 110, 58, 105, 101, 116, 102, 58, 112, 97, 114, 97, 109, 115, 58, 120, 109, 108, 58, 110, 115, 58, 115, 101, 99, 68, 78, 83, 45, 49, 46, 49]⟩, .string loc, .slice none 0 0, .slice none 0 0, .string txt] 49)) w.heap.size loc txt := by
  refine ⟨?_, ?_, ?_, ?_, ?_⟩ <;> simp

/-- What 'NewText' leaves, as the walks take it. -/
def TextMade (loc txt : ByteArray) (w : World) (e : Ending) (w' : World) : Prop :=
  ∃ b, e = .returned (.pointer (some ⟨b, 0, none⟩)) ∧ w.heap.size ≤ b ∧ b < w'.heap.size ∧ Txt w' b loc txt ∧ Below w.heap.size w w'

theorem newText_made (loc txt : ByteArray) (w : World) : Calls Ybad.prog 8 #[.string ⟨#[117, 114, 110, 58, 105, 101, 116, 102, 58, 112, 97, 114, 97, 109, 115, 58, 120, 109, 108, 58, 110, 115, 58, 115, 101, 99, 68, 78, 83, 45, 49, 46, 49]⟩, .string loc, .string txt] w (TextMade loc txt w) := by
  refine (newText_any _ loc txt w).mono ?_
  rintro e w' ⟨rfl, rfl⟩
  exact ⟨_, rfl, Nat.le_refl _, by simp, txt_new w loc txt, (Below.refl _ _).alloc (Nat.le_refl _) _⟩

theorem tab_lt {w : World} (h : Lib.TabIs Ybad.prog w "internal/strconv.uint64pow10" .u64 Lib.pow10Tab) : 0 < w.heap.size := by
  unfold Lib.TabIs World.var? at h
  have hg : Ybad.prog.globalNamed "internal/strconv.uint64pow10" = some 0 := by kernel_rfl
  simp only [hg, Option.bind_some] at h
  by_cases hl : 0 < w.heap.size
  · exact hl
  · rw [Array.getElem?_eq_none (by omega)] at h
    cases h

theorem tab_below {w w' : World} (hb : Below w.heap.size w w') (h : Lib.TabIs Ybad.prog w "internal/strconv.uint64pow10" .u64 Lib.pow10Tab) : Lib.TabIs Ybad.prog w' "internal/strconv.uint64pow10" .u64 Lib.pow10Tab := by
  unfold Lib.TabIs at *
  exact var?_below hb (g := 0) (by kernel_rfl) (tab_lt h) h

theorem tab_of {w w1 : World} {A B C D E : Prop} (h : A ∧ B ∧ C ∧ D ∧ E ∧ Below w.heap.size w w1) (ht : Lib.TabIs Ybad.prog w "internal/strconv.uint64pow10" .u64 Lib.pow10Tab) : Lib.TabIs Ybad.prog w1 "internal/strconv.uint64pow10" .u64 Lib.pow10Tab := tab_below h.2.2.2.2.2 ht

theorem wrap_small {n : Int} (h0 : 0 ≤ n) (h1 : n ≤ 65535) : IntKind.i64.wrap n = n := by
  simp [IntKind.wrap, IntKind.signed, IntKind.bits]
  omega

/-- Child i of the children's row cb: a text element, all in blocks that meet P. -/
def Kid (P : Nat → Prop) (w : World) (cb i : Nat) (loc txt : ByteArray) : Prop := ∃ b, P b ∧ w.cell? ⟨cb, i, none⟩ = some (.pointer (some ⟨b, 0, none⟩)) ∧ Txt w b loc txt

theorem Kid.same {P Q : Nat → Prop} {w w' : World} {cb i : Nat} {loc txt : ByteArray} (h : Kid P w cb i loc txt) (hcb : P cb) (hs : ∀ b, P b → w'.heap[b]? = w.heap[b]?) (hpq : ∀ b, P b → Q b) : Kid Q w' cb i loc txt := by
  obtain ⟨b, hp, hc, ht⟩ := h
  exact ⟨b, hpq b hp, (World.cell?_of_block (w := w) (w' := w') (hs cb hcb)).trans hc, ht.same (hs b hp)⟩

/-- A 'keyData' element in block b. -/
def KeyEl (P : Nat → Prop) (w : World) (b : Nat) (fl pr al : Int) (pk : ByteArray) : Prop :=
  P b ∧ w.cell? ⟨b, 0, none⟩ = some (.string ⟨#[117, 114, 110, 58, 105, 101, 116, 102, 58, 112, 97, 114, 97, 109, 115, 58, 120, 109, 108, 58, 110, 115, 58, 115, 101, 99, 68, 78, 83, 45, 49, 46, 49]⟩) ∧ w.cell? ⟨b, 1, none⟩ = some (.string ⟨#[107, 101, 121, 68, 97, 116, 97]⟩) ∧ w.cell? ⟨b, 2, none⟩ = some (.slice none 0 0) ∧ w.cell? ⟨b, 4, none⟩ = some (.string ⟨#[]⟩) ∧
  ∃ cb cap, P cb ∧ w.cell? ⟨b, 3, none⟩ = some (.slice (some ⟨cb, 0, none⟩) 4 cap) ∧ Kid P w cb 0 ⟨#[102, 108, 97, 103, 115]⟩ ⟨(Lib.decDigits fl.toNat).toArray⟩ ∧ Kid P w cb 1 ⟨#[112, 114, 111, 116, 111, 99, 111, 108]⟩ ⟨(Lib.decDigits pr.toNat).toArray⟩ ∧ Kid P w cb 2 ⟨#[97, 108, 103]⟩ ⟨(Lib.decDigits al.toNat).toArray⟩ ∧ Kid P w cb 3 ⟨#[112, 117, 98, 75, 101, 121]⟩ pk

theorem KeyEl.same {P Q : Nat → Prop} {w w' : World} {b : Nat} {fl pr al : Int} {pk : ByteArray} (h : KeyEl P w b fl pr al pk) (hs : ∀ b, P b → w'.heap[b]? = w.heap[b]?) (hpq : ∀ b, P b → Q b) : KeyEl Q w' b fl pr al pk := by
  obtain ⟨hp, h0, h1, h2, h4, cb, cap, hcb, h3, k0, k1, k2, k3⟩ := h
  have e : ∀ o, w'.cell? ⟨b, o, none⟩ = w.cell? ⟨b, o, none⟩ := fun o => World.cell?_of_block (w := w) (w' := w') (hs b hp)
  refine ⟨hpq b hp, (e 0).trans h0, (e 1).trans h1, (e 2).trans h2, (e 4).trans h4, cb, cap, hpq cb hcb, (e 3).trans h3, k0.same hcb hs hpq, k1.same hcb hs hpq, k2.same hcb hs hpq, k3.same hcb hs hpq⟩

/-- What 'keyDataElement' leaves. -/
def KeyMade (fl pr al : Int) (pk : ByteArray) (w : World) (e : Ending) (w' : World) : Prop :=
  ∃ b, e = .returned (.pointer (some ⟨b, 0, none⟩)) ∧ KeyEl (fun x => w.heap.size ≤ x ∧ x < w'.heap.size) w' b fl pr al pk ∧ Below w.heap.size w w'

/-- A row of four new pointers and an element over it. -/
theorem four_new {w w' : World} {t : TypeId} {b0 b1 b2 b3 : Nat} {loc l0 l1 l2 l3 t0 t1 t2 t3 : ByteArray} (hb : Below w.heap.size w w') (h0 : w.heap.size ≤ b0) (h1 : w.heap.size ≤ b1) (h2 : w.heap.size ≤ b2) (h3 : w.heap.size ≤ b3)
    (x0 : Txt w' b0 l0 t0) (x1 : Txt w' b1 l1 t1) (x2 : Txt w' b2 l2 t2) (x3 : Txt w' b3 l3 t3) :
    let W := (w'.alloc (.cells #[.pointer (some ⟨b0, 0, none⟩), .pointer (some ⟨b1, 0, none⟩), .pointer (some ⟨b2, 0, none⟩), .pointer (some ⟨b3, 0, none⟩)] t)).alloc (.cells #[.string ⟨#[117, 114, 110, 58, 105, 101, 116, 102, 58, 112, 97, 114, 97, 109, 115, 58, 120, 109, 108, 58, 110, 115, 58, 115, 101, 99, 68, 78, 83, 45, 49, 46, 49]⟩, .string loc, .slice none 0 0, .slice (some ⟨w'.heap.size, 0, none⟩) 4 4, .string ⟨#[]⟩] 49)
    let P := fun x => w.heap.size ≤ x ∧ x < W.heap.size
    Kid P W w'.heap.size 0 l0 t0 ∧ Kid P W w'.heap.size 1 l1 t1 ∧ Kid P W w'.heap.size 2 l2 t2 ∧ Kid P W w'.heap.size 3 l3 t3 ∧ P w'.heap.size ∧ P (w'.heap.size + 1) ∧ Below w.heap.size w W := by
  intro W P
  have hW : Below w'.heap.size w' W := ((Below.refl _ _).alloc (Nat.le_refl _) _).alloc (by simp) _
  have hsz : W.heap.size = w'.heap.size + 2 := by simp [W]
  have hle := hb.size
  have kid : ∀ (b i : Nat) (l t : ByteArray), w.heap.size ≤ b → Txt w' b l t → W.cell? ⟨w'.heap.size, i, none⟩ = some (.pointer (some ⟨b, 0, none⟩)) → Kid P W w'.heap.size i l t := by
    intro b i l t hbb ht hc
    have := ht.lt
    exact ⟨b, ⟨hbb, by omega⟩, hc, ht.below hW⟩
  refine ⟨kid b0 0 _ _ h0 x0 ?_, kid b1 1 _ _ h1 x1 ?_, kid b2 2 _ _ h2 x2 ?_, kid b3 3 _ _ h3 x3 ?_, ⟨hle, by omega⟩, ⟨by omega, by omega⟩, hb.trans (hW.mono hle)⟩ <;> simp [W]

/-- What the walk of 'keyDataElement' holds of every world: the key's box, and that all below it is as it was. -/
abbrev KS (w : World) (fl pr al : Int) (pk : ByteArray) (w' : World) : Prop := w'.cell? ⟨w.heap.size, 0, none⟩ = some (.int .u16 fl) ∧ w'.cell? ⟨w.heap.size, 1, none⟩ = some (.int .u8 pr) ∧ w'.cell? ⟨w.heap.size, 2, none⟩ = some (.int .u8 al) ∧ w'.cell? ⟨w.heap.size, 3, none⟩ = some (.string pk) ∧ w.heap.size < w'.heap.size ∧ Below w.heap.size w w'

theorem ks_start (w : World) (fl pr al : Int) (pk : ByteArray) : KS w fl pr al pk (w.alloc (.cells #[.int .u16 fl, .int .u8 pr, .int .u8 al, .string pk] 28)).drew := by
  refine ⟨by simp, by simp, by simp, by simp, by simp, ((Below.refl _ _).alloc (Nat.le_refl _) _).drew⟩
theorem ks_below {w w1 w2 : World} {fl pr al : Int} {pk : ByteArray} (hb : Below w1.heap.size w1 w2) (h : KS w fl pr al pk w1) : KS w fl pr al pk w2 := by
  obtain ⟨h0, h1, h2, h3, h4, h5⟩ := h
  exact ⟨(hb.cell (by exact h4)).trans h0, (hb.cell (by exact h4)).trans h1, (hb.cell (by exact h4)).trans h2, (hb.cell (by exact h4)).trans h3, Nat.lt_of_lt_of_le h4 hb.size, h5.trans (hb.mono (by omega))⟩
theorem ks_alloc {w w1 : World} {fl pr al : Int} {pk : ByteArray} {o : Obj} (h : KS w fl pr al pk w1) : KS w fl pr al pk (w1.alloc o) := ks_below ((Below.refl _ _).alloc (Nat.le_refl _) _) h

set_option maxRecDepth 100000 in
set_option maxHeartbeats 1000000 in
theorem keyData_any (fl pr al : Int) (pk : ByteArray) (w : World) (f0 : 0 ≤ fl) (f1 : fl ≤ 65535) (p0 : 0 ≤ pr) (p1 : pr ≤ 255) (l0 : 0 ≤ al) (l1 : al ≤ 255) (htab : Lib.TabIs Ybad.prog w "internal/strconv.uint64pow10" .u64 Lib.pow10Tab) :
    Calls Ybad.prog 10 #[.string ⟨#[117, 114, 110, 58, 105, 101, 116, 102, 58, 112, 97, 114, 97, 109, 115, 58, 120, 109, 108, 58, 110, 115, 58, 115, 101, 99, 68, 78, 83, 45, 49, 46, 49]⟩, .agg #[.int .u16 fl, .int .u8 pr, .int .u8 al, .string pk]] w (KeyMade fl pr al pk w) := by
  have HTAB : Hid (Lib.TabIs Ybad.prog w "internal/strconv.uint64pow10" .u64 Lib.pow10Tab) := htab
  clear htab
  have hw1 : IntKind.i64.wrap fl = fl := wrap_small f0 f1
  have hw2 : IntKind.i64.wrap pr = pr := wrap_small p0 (by omega)
  have hw3 : IntKind.i64.wrap al = al := wrap_small l0 (by omega)
  go_enter Ybad.func10, Ybad.ntmps10
  go_wp2
  go_region_held3 (fun w' => w'.cell? ⟨w.heap.size, 0, none⟩ = some (.int .u16 fl) ∧ w'.cell? ⟨w.heap.size, 1, none⟩ = some (.int .u8 pr) ∧ w'.cell? ⟨w.heap.size, 2, none⟩ = some (.int .u8 al) ∧ w'.cell? ⟨w.heap.size, 3, none⟩ = some (.string pk) ∧ w.heap.size < w'.heap.size ∧ Below w.heap.size w w') (first | exact ks_start _ _ _ _ _ | exact ks_below (by assumption) (by assumption) | exact ks_alloc (by assumption)) (first | (go_at_call 9; refine (itoa_any _ _ (by omega) (by omega) (tab_of (by assumption) HTAB.out)).mono ?_; rintro e w' ⟨rfl, hb⟩) | (go_at_call 8; refine (newText_made _ _ _).mono ?_; rintro e w' ⟨b, rfl, hb1, hb2, htx, hb⟩) | (go_at_call 7; refine (new_any _ _ _ _ _ _).mono ?_; rintro e w' ⟨rfl, rfl⟩))
  go_wp2
  go_ret
  rename_i w1 e1 w2 b1 x1 x2 t1 e2 w3 e3 w4 b2 y1 y2 t2 e4 w5 e5 w6 b3 z1 z2 t3 e6 hH
  have s1 := e1.size
  have s2 := e2.size
  have s3 := e3.size
  have s4 := e4.size
  have s5 := e5.size
  have s6 := e6.size
  have s7 := hb.size
  simp at s1
  have hB : Below w.heap.size w w' := ((((((((((Below.refl _ _).alloc (Nat.le_refl _) _).drew).trans (e1.mono (by simp))).trans (e2.mono (by omega))).trans (e3.mono (by omega))).trans (e4.mono (by omega))).trans (e5.mono (by omega))).trans (e6.mono (by omega))).trans (hb.mono (by omega)))
  have R := four_new (t := 42) (loc := ⟨#[107, 101, 121, 68, 97, 116, 97]⟩) hB (b0 := b1) (b1 := b2) (b2 := b3) (b3 := b) (by omega) (by omega) (by omega) (by omega) (((((t1.below e3).below e4).below e5).below e6).below hb) (((t2.below e5).below e6).below hb) (t3.below hb) htx
  obtain ⟨r0, r1, r2, r3, r4, r5, r6⟩ := R
  exact ⟨_, rfl, ⟨r5, by simp, by simp, by simp, by simp, _, _, r4, by simp; rfl, r0, r1, r2, r3⟩, r6⟩
end Go.Proofs.YbulkebxyDoor
