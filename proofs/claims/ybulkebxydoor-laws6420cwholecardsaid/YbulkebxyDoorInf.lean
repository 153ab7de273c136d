import Derived.Test.YbulkebxyDoorKey
import Derived.Deep.AppendLies
import Derived.Deep.RegionLawGrows
namespace Go.Proofs.YbulkebxyDoor
open Go.ChangeShapes Go.WideShapes Go.ChangeAt Go.RowKit
set_option linter.unusedVariables false
set_option linter.unusedSimpArgs false

/-- One DS record with its key. -/
structure DsRow where
  kt : Int
  alg : Int
  dt : Int
  dg : ByteArray
  fl : Int
  pr : Int
  ka : Int
  pk : ByteArray

def DsRow.ok (r : DsRow) : Prop := (0 ≤ r.kt ∧ r.kt ≤ 65535) ∧ (0 ≤ r.alg ∧ r.alg ≤ 255) ∧ (0 ≤ r.dt ∧ r.dt ≤ 255) ∧ (0 ≤ r.fl ∧ r.fl ≤ 65535) ∧ (0 ≤ r.pr ∧ r.pr ≤ 255) ∧ (0 ≤ r.ka ∧ r.ka ≤ 255)
def DsRow.noKey (r : DsRow) : Prop := r.fl = 0 ∧ r.pr = 0 ∧ r.ka = 0 ∧ r.pk = ⟨#[]⟩
def rowCells (r : DsRow) : List Value := [.int .u16 r.kt, .int .u8 r.alg, .int .u8 r.dt, .string r.dg, .int .u16 r.fl, .int .u8 r.pr, .int .u8 r.ka, .string r.pk]

/-- The records of a slice of structs of eight cells. -/
def RowsAt (w : World) (a : Option Addr) (n : Nat) (rows : Nat → DsRow) : Prop :=
  ∀ i, i < n → (rows i).ok ∧ ∃ b o, a = some ⟨b, o, none⟩ ∧ w.rangeAt b (o + i * 8) (rowCells (rows i))

/-- A 'dsData' element in block b. -/
def DsEl (P : Nat → Prop) (w : World) (b : Nat) (r : DsRow) : Prop :=
  P b ∧ w.cell? ⟨b, 0, none⟩ = some (.string ⟨#[117, 114, 110, 58, 105, 101, 116, 102, 58, 112, 97, 114, 97, 109, 115, 58, 120, 109, 108, 58, 110, 115, 58, 115, 101, 99, 68, 78, 83, 45, 49, 46, 49]⟩) ∧ w.cell? ⟨b, 1, none⟩ = some (.string ⟨#[100, 115, 68, 97, 116, 97]⟩) ∧ w.cell? ⟨b, 2, none⟩ = some (.slice none 0 0) ∧ w.cell? ⟨b, 4, none⟩ = some (.string ⟨#[]⟩) ∧
  ∃ cb n cap, P cb ∧ w.cell? ⟨b, 3, none⟩ = some (.slice (some ⟨cb, 0, none⟩) n cap) ∧ Kid P w cb 0 ⟨#[107, 101, 121, 84, 97, 103]⟩ ⟨(Lib.decDigits r.kt.toNat).toArray⟩ ∧ Kid P w cb 1 ⟨#[97, 108, 103]⟩ ⟨(Lib.decDigits r.alg.toNat).toArray⟩ ∧ Kid P w cb 2 ⟨#[100, 105, 103, 101, 115, 116, 84, 121, 112, 101]⟩ ⟨(Lib.decDigits r.dt.toNat).toArray⟩ ∧ Kid P w cb 3 ⟨#[100, 105, 103, 101, 115, 116]⟩ r.dg ∧
  ((r.noKey ∧ n = 4) ∨ (¬ r.noKey ∧ n = 5 ∧ ∃ bk, w.cell? ⟨cb, 4, none⟩ = some (.pointer (some ⟨bk, 0, none⟩)) ∧ KeyEl P w bk r.fl r.pr r.ka r.pk))

theorem DsEl.same {P Q : Nat → Prop} {w w' : World} {b : Nat} {r : DsRow} (h : DsEl P w b r) (hs : ∀ b, P b → w'.heap[b]? = w.heap[b]?) (hpq : ∀ b, P b → Q b) : DsEl Q w' b r := by
  obtain ⟨hp, h0, h1, h2, h4, cb, n, cap, hcb, h3, k0, k1, k2, k3, hk⟩ := h
  have e : ∀ o, w'.cell? ⟨b, o, none⟩ = w.cell? ⟨b, o, none⟩ := fun o => World.cell?_of_block (w := w) (w' := w') (hs b hp)
  refine ⟨hpq b hp, (e 0).trans h0, (e 1).trans h1, (e 2).trans h2, (e 4).trans h4, cb, n, cap, hpq cb hcb, (e 3).trans h3, k0.same hcb hs hpq, k1.same hcb hs hpq, k2.same hcb hs hpq, k3.same hcb hs hpq, ?_⟩
  rcases hk with hk | ⟨hk, hn, bk, hc, hkey⟩
  · exact .inl hk
  · exact .inr ⟨hk, hn, bk, (World.cell?_of_block (w := w) (w' := w') (hs cb hcb)).trans hc, hkey.same hs hpq⟩

/-- 'infData' in block I: its children's value v owns the pointers xs: first the text element where msl is positive, then the records' elements. -/
structure Inf (w : World) (I off k : Nat) (msl : Int) (rows : Nat → DsRow) (v : Value) (xs : List Value) (wr : World) : Prop where
  c0 : wr.cell? ⟨I, 0, none⟩ = some (.string ⟨#[117, 114, 110, 58, 105, 101, 116, 102, 58, 112, 97, 114, 97, 109, 115, 58, 120, 109, 108, 58, 110, 115, 58, 115, 101, 99, 68, 78, 83, 45, 49, 46, 49]⟩)
  c1 : wr.cell? ⟨I, 1, none⟩ = some (.string ⟨#[105, 110, 102, 68, 97, 116, 97]⟩)
  c2 : wr.cell? ⟨I, 2, none⟩ = some (.slice none 0 0)
  c3 : wr.cell? ⟨I, 3, none⟩ = some v
  c4 : wr.cell? ⟨I, 4, none⟩ = some (.string ⟨#[]⟩)
  f3 : wr.frozen? ⟨I, 3, none⟩ = false
  own : wr.ownsRow (I + 1) 42 1 v (off + k) xs
  first : off = 1 → ∃ b, (I < b ∧ b < wr.heap.size ∧ some b ≠ v.ownBlock) ∧ xs[0]? = some (.pointer (some ⟨b, 0, none⟩)) ∧ Txt wr b ⟨#[109, 97, 120, 83, 105, 103, 76, 105, 102, 101]⟩ ⟨(Lib.decDigits msl.toNat).toArray⟩
  els : ∀ i, i < k → ∃ b, xs[off + i]? = some (.pointer (some ⟨b, 0, none⟩)) ∧ DsEl (fun b => I < b ∧ b < wr.heap.size ∧ some b ≠ v.ownBlock) wr b (rows i)
  below : Below w.heap.size w wr
  size : I + 1 ≤ wr.heap.size
  lo : w.heap.size ≤ I

theorem info42 : (Ybad.prog.info? 42).map (fun i => (i.zero, i.size, i.bytes)) = some (some (.pointer none), 1, 8) := by kernel_rfl

theorem tab_two {w : World} (h : Lib.TabIs Ybad.prog w "internal/strconv.uint64pow10" .u64 Lib.pow10Tab) (o1 o2 : Obj) : Lib.TabIs Ybad.prog ((w.alloc o1).alloc o2).drew "internal/strconv.uint64pow10" .u64 Lib.pow10Tab :=
  tab_below (((Below.refl _ _).alloc (Nat.le_refl _) _).alloc (by simp) _).drew h

theorem cell_set_other {w : World} {p q : Addr} {v u : Value} (h : w.cell? q = some v) (hne : p ≠ q) : (w.setCell p u).cell? q = some v := (World.cell?_setCell_other _ _ _ _ hne).trans h
theorem addr_ne_block {b b' o o' : Nat} (h : b ≠ b') : (⟨b, o, none⟩ : Addr) ≠ ⟨b', o', none⟩ := fun e => h (congrArg Addr.block e)
theorem addr_ne_off {b o o' : Nat} (h : o ≠ o') : (⟨b, o, none⟩ : Addr) ≠ ⟨b, o', none⟩ := fun e => h (congrArg Addr.off e)
theorem block_setCell {w : World} {a : Addr} {u : Value} {k : Nat} (h : k ≠ a.block) : (w.setCell a u).heap[k]? = w.heap[k]? := Below.heap_setCell w a u k h

theorem inf_first {w wI wT w1 : World} {cs : Array Value} {msl : Int} {rows : Nat → DsRow} {b g cap : Nat}
    (hbI : Below (((w.alloc (.cells cs 41)).alloc (.cells #[.string ⟨#[117, 114, 110, 58, 105, 101, 116, 102, 58, 112, 97, 114, 97, 109, 115, 58, 120, 109, 108, 58, 110, 115, 58, 115, 101, 99, 68, 78, 83, 45, 49, 46, 49]⟩, .string ⟨#[105, 110, 102, 68, 97, 116, 97]⟩, .slice none 0 0, .slice none 0 0, .string ⟨#[]⟩] 49)).drew).heap.size (((w.alloc (.cells cs 41)).alloc (.cells #[.string ⟨#[117, 114, 110, 58, 105, 101, 116, 102, 58, 112, 97, 114, 97, 109, 115, 58, 120, 109, 108, 58, 110, 115, 58, 115, 101, 99, 68, 78, 83, 45, 49, 46, 49]⟩, .string ⟨#[105, 110, 102, 68, 97, 116, 97]⟩, .slice none 0 0, .slice none 0 0, .string ⟨#[]⟩] 49)).drew) wI)
    (hb1 : wI.heap.size ≤ b) (htx : Txt wT b ⟨#[109, 97, 120, 83, 105, 103, 76, 105, 102, 101]⟩ ⟨(Lib.decDigits msl.toNat).toArray⟩) (hbT : Below wI.heap.size wI wT)
    (hown : w1.ownsRow (w.heap.size + 2) 42 1 (.slice (some ⟨g, 0, none⟩) 1 cap) 1 [.pointer (some ⟨b, 0, none⟩)])
    (hgrow : (wT.alloc (.cells #[.pointer (some ⟨b, 0, none⟩)] 42)).grownBy w1 none) (hat : g = (wT.alloc (.cells #[.pointer (some ⟨b, 0, none⟩)] 42)).heap.size) :
    (w1.setCell ⟨w.heap.size + 1, 3, none⟩ (.slice (some ⟨g, 0, none⟩) 1 cap)).cell? ⟨w.heap.size, 3, none⟩ = cs[3]? ∧ Inf w (w.heap.size + 1) 1 0 msl rows (.slice (some ⟨g, 0, none⟩) 1 cap) [.pointer (some ⟨b, 0, none⟩)] (w1.setCell ⟨w.heap.size + 1, 3, none⟩ (.slice (some ⟨g, 0, none⟩) 1 cap)) := by
  have s1 := hbI.size
  have s2 := hbT.size
  have s3 := hgrow.size
  have s4 := htx.lt
  simp at s1 s3 hat
  have hT : Below wT.heap.size wT w1 := ((Below.refl _ _).alloc (Nat.le_refl _) _).grown hgrow (by simp) (by intro k h; cases h)
  have hch : Below (w.heap.size + 2) (((w.alloc (.cells cs 41)).alloc (.cells #[.string ⟨#[117, 114, 110, 58, 105, 101, 116, 102, 58, 112, 97, 114, 97, 109, 115, 58, 120, 109, 108, 58, 110, 115, 58, 115, 101, 99, 68, 78, 83, 45, 49, 46, 49]⟩, .string ⟨#[105, 110, 102, 68, 97, 116, 97]⟩, .slice none 0 0, .slice none 0 0, .string ⟨#[]⟩] 49)).drew) w1 := (hbI.mono (by simp)).trans ((hbT.mono (by omega)).trans (hT.mono (by omega)))
  have hcI : ∀ o, w1.cell? ⟨w.heap.size + 1, o, none⟩ = (((w.alloc (.cells cs 41)).alloc (.cells #[.string ⟨#[117, 114, 110, 58, 105, 101, 116, 102, 58, 112, 97, 114, 97, 109, 115, 58, 120, 109, 108, 58, 110, 115, 58, 115, 101, 99, 68, 78, 83, 45, 49, 46, 49]⟩, .string ⟨#[105, 110, 102, 68, 97, 116, 97]⟩, .slice none 0 0, .slice none 0 0, .string ⟨#[]⟩] 49)).drew).cell? ⟨w.heap.size + 1, o, none⟩ := fun o => hch.cell (by simp)
  have h3 : w1.cell? ⟨w.heap.size + 1, 3, none⟩ = some (.slice none 0 0) := (hcI 3).trans (by simp)
  refine ⟨?_, ⟨?_, ?_, ?_, World.cell?_setCell_same _ _ _ h3, ?_, ?_, ownsRow_setCell_below hown (by show w.heap.size + 1 < _; omega) _, ?_, fun i hi => absurd hi (Nat.not_lt_zero _), ?_, ?_, by omega⟩⟩
  · rw [World.cell?_setCell_other _ _ _ _ (addr_ne_block (by omega)), hch.cell (by simp)]
    simp
  · exact cell_set_other ((hcI 0).trans (by simp)) (addr_ne_off (by omega))
  · exact cell_set_other ((hcI 1).trans (by simp)) (addr_ne_off (by omega))
  · exact cell_set_other ((hcI 2).trans (by simp)) (addr_ne_off (by omega))
  · exact cell_set_other ((hcI 4).trans (by simp)) (addr_ne_off (by omega))
  · rw [World.frozen?_setCell]
    exact (hch.frozen (by simp)).trans (by simp)
  · intro _
    refine ⟨b, ⟨by omega, by simp [World.setCell]; omega, by simp [Value.ownBlock]; omega⟩, rfl, ?_⟩
    exact (htx.below hT).same (block_setCell (by show b ≠ w.heap.size + 1; omega))
  · refine Below.setCell ?_ (by show w.heap.size ≤ w.heap.size + 1; omega) _
    exact ((((Below.refl _ _).alloc (Nat.le_refl _) _).alloc (by simp) _).drew).trans (hch.mono (by omega))
  · simp [World.setCell]; omega

/-- What the walk of one record's element holds of every world: the record's box. -/
abbrev DS (wr : World) (r : DsRow) (w' : World) : Prop := w'.cell? ⟨wr.heap.size, 0, none⟩ = some (.int .u16 r.kt) ∧ w'.cell? ⟨wr.heap.size, 1, none⟩ = some (.int .u8 r.alg) ∧ w'.cell? ⟨wr.heap.size, 2, none⟩ = some (.int .u8 r.dt) ∧ w'.cell? ⟨wr.heap.size, 3, none⟩ = some (.string r.dg) ∧ wr.heap.size < w'.heap.size ∧ Below wr.heap.size wr w'

theorem ds_start (wr : World) (r : DsRow) : DS wr r (wr.alloc (.cells #[.int .u16 r.kt, .int .u8 r.alg, .int .u8 r.dt, .string r.dg, .int .u16 r.fl, .int .u8 r.pr, .int .u8 r.ka, .string r.pk] 30)).drew := by
  refine ⟨by simp, by simp, by simp, by simp, by simp, ((Below.refl _ _).alloc (Nat.le_refl _) _).drew⟩
theorem ds_below {wr w1 w2 : World} {r : DsRow} (hb : Below w1.heap.size w1 w2) (h : DS wr r w1) : DS wr r w2 := by
  obtain ⟨h0, h1, h2, h3, h4, h5⟩ := h
  exact ⟨(hb.cell (by exact h4)).trans h0, (hb.cell (by exact h4)).trans h1, (hb.cell (by exact h4)).trans h2, (hb.cell (by exact h4)).trans h3, Nat.lt_of_lt_of_le h4 hb.size, h5.trans (hb.mono (by omega))⟩
theorem ds_alloc {wr w1 : World} {r : DsRow} {o : Obj} (h : DS wr r w1) : DS wr r (w1.alloc o) := ds_below ((Below.refl _ _).alloc (Nat.le_refl _) _) h

/-- One record's element as 'New' leaves it, ahead of its key. -/
structure DsNew (wr wx : World) (r : DsRow) (cb b0 b1 b2 b3 : Nat) : Prop where
  lo : wr.heap.size < cb
  hi : cb + 1 < wx.heap.size
  row : wx.heap[cb]? = some (.cells #[.pointer (some ⟨b0, 0, none⟩), .pointer (some ⟨b1, 0, none⟩), .pointer (some ⟨b2, 0, none⟩), .pointer (some ⟨b3, 0, none⟩)] 42 (0, 0))
  c0 : wx.cell? ⟨cb + 1, 0, none⟩ = some (.string ⟨#[117, 114, 110, 58, 105, 101, 116, 102, 58, 112, 97, 114, 97, 109, 115, 58, 120, 109, 108, 58, 110, 115, 58, 115, 101, 99, 68, 78, 83, 45, 49, 46, 49]⟩)
  c1 : wx.cell? ⟨cb + 1, 1, none⟩ = some (.string ⟨#[100, 115, 68, 97, 116, 97]⟩)
  c2 : wx.cell? ⟨cb + 1, 2, none⟩ = some (.slice none 0 0)
  c3 : wx.cell? ⟨cb + 1, 3, none⟩ = some (.slice (some ⟨cb, 0, none⟩) 4 4)
  c4 : wx.cell? ⟨cb + 1, 4, none⟩ = some (.string ⟨#[]⟩)
  f3 : wx.frozen? ⟨cb + 1, 3, none⟩ = false
  n0 : wr.heap.size < b0 ∧ b0 < cb
  n1 : wr.heap.size < b1 ∧ b1 < cb
  n2 : wr.heap.size < b2 ∧ b2 < cb
  n3 : wr.heap.size < b3 ∧ b3 < cb
  t0 : Txt wx b0 ⟨#[107, 101, 121, 84, 97, 103]⟩ ⟨(Lib.decDigits r.kt.toNat).toArray⟩
  t1 : Txt wx b1 ⟨#[97, 108, 103]⟩ ⟨(Lib.decDigits r.alg.toNat).toArray⟩
  t2 : Txt wx b2 ⟨#[100, 105, 103, 101, 115, 116, 84, 121, 112, 101]⟩ ⟨(Lib.decDigits r.dt.toNat).toArray⟩
  t3 : Txt wx b3 ⟨#[100, 105, 103, 101, 115, 116]⟩ r.dg
  d4 : wx.cell? ⟨wr.heap.size, 4, none⟩ = some (.int .u16 r.fl)
  d5 : wx.cell? ⟨wr.heap.size, 5, none⟩ = some (.int .u8 r.pr)
  d6 : wx.cell? ⟨wr.heap.size, 6, none⟩ = some (.int .u8 r.ka)
  d7 : wx.cell? ⟨wr.heap.size, 7, none⟩ = some (.string r.pk)
  below : Below wr.heap.size wr wx

theorem dsNew_of {wr w' : World} {r : DsRow} {b0 b1 b2 b3 : Nat} (hb : Below (wr.heap.size + 1) ((wr.alloc (.cells #[.int .u16 r.kt, .int .u8 r.alg, .int .u8 r.dt, .string r.dg, .int .u16 r.fl, .int .u8 r.pr, .int .u8 r.ka, .string r.pk] 30)).drew) w')
    (n0 : wr.heap.size < b0) (n1 : wr.heap.size < b1) (n2 : wr.heap.size < b2) (n3 : wr.heap.size < b3)
    (x0 : Txt w' b0 ⟨#[107, 101, 121, 84, 97, 103]⟩ ⟨(Lib.decDigits r.kt.toNat).toArray⟩) (x1 : Txt w' b1 ⟨#[97, 108, 103]⟩ ⟨(Lib.decDigits r.alg.toNat).toArray⟩) (x2 : Txt w' b2 ⟨#[100, 105, 103, 101, 115, 116, 84, 121, 112, 101]⟩ ⟨(Lib.decDigits r.dt.toNat).toArray⟩) (x3 : Txt w' b3 ⟨#[100, 105, 103, 101, 115, 116]⟩ r.dg) :
    DsNew wr ((w'.alloc (.cells #[.pointer (some ⟨b0, 0, none⟩), .pointer (some ⟨b1, 0, none⟩), .pointer (some ⟨b2, 0, none⟩), .pointer (some ⟨b3, 0, none⟩)] 42)).alloc (.cells #[.string ⟨#[117, 114, 110, 58, 105, 101, 116, 102, 58, 112, 97, 114, 97, 109, 115, 58, 120, 109, 108, 58, 110, 115, 58, 115, 101, 99, 68, 78, 83, 45, 49, 46, 49]⟩, .string ⟨#[100, 115, 68, 97, 116, 97]⟩, .slice none 0 0, .slice (some ⟨w'.heap.size, 0, none⟩) 4 4, .string ⟨#[]⟩] 49)) r w'.heap.size b0 b1 b2 b3 := by
  have s := hb.size
  simp at s
  have hW : Below w'.heap.size w' ((w'.alloc (.cells #[.pointer (some ⟨b0, 0, none⟩), .pointer (some ⟨b1, 0, none⟩), .pointer (some ⟨b2, 0, none⟩), .pointer (some ⟨b3, 0, none⟩)] 42)).alloc (.cells #[.string ⟨#[117, 114, 110, 58, 105, 101, 116, 102, 58, 112, 97, 114, 97, 109, 115, 58, 120, 109, 108, 58, 110, 115, 58, 115, 101, 99, 68, 78, 83, 45, 49, 46, 49]⟩, .string ⟨#[100, 115, 68, 97, 116, 97]⟩, .slice none 0 0, .slice (some ⟨w'.heap.size, 0, none⟩) 4 4, .string ⟨#[]⟩] 49)) := ((Below.refl _ _).alloc (Nat.le_refl _) _).alloc (by simp) _
  have hd : ∀ o, ((w'.alloc (.cells #[.pointer (some ⟨b0, 0, none⟩), .pointer (some ⟨b1, 0, none⟩), .pointer (some ⟨b2, 0, none⟩), .pointer (some ⟨b3, 0, none⟩)] 42)).alloc (.cells #[.string ⟨#[117, 114, 110, 58, 105, 101, 116, 102, 58, 112, 97, 114, 97, 109, 115, 58, 120, 109, 108, 58, 110, 115, 58, 115, 101, 99, 68, 78, 83, 45, 49, 46, 49]⟩, .string ⟨#[100, 115, 68, 97, 116, 97]⟩, .slice none 0 0, .slice (some ⟨w'.heap.size, 0, none⟩) 4 4, .string ⟨#[]⟩] 49)).cell? ⟨wr.heap.size, o, none⟩ = ((wr.alloc (.cells #[.int .u16 r.kt, .int .u8 r.alg, .int .u8 r.dt, .string r.dg, .int .u16 r.fl, .int .u8 r.pr, .int .u8 r.ka, .string r.pk] 30)).drew).cell? ⟨wr.heap.size, o, none⟩ := fun o => (hW.cell (by show wr.heap.size < _; omega)).trans (hb.cell (by simp))
  refine ⟨by omega, by simp, ?_, by simp, by simp, by simp, by simp, by simp, by simp, ⟨n0, x0.lt⟩, ⟨n1, x1.lt⟩, ⟨n2, x2.lt⟩, ⟨n3, x3.lt⟩, x0.below hW, x1.below hW, x2.below hW, x3.below hW, (hd 4).trans (by simp), (hd 5).trans (by simp), (hd 6).trans (by simp), (hd 7).trans (by simp), ?_⟩
  · rw [Below.heap_alloc _ _ _ (by simp), heap_alloc_new]
  · exact ((((Below.refl _ _).alloc (Nat.le_refl _) _).drew).trans (hb.mono (by omega))).trans (hW.mono (by omega))

/-- One record's element, whole, in new blocks. -/
def DsDone (wr wx : World) (b : Nat) (r : DsRow) : Prop := DsEl (fun x => wr.heap.size < x ∧ x < wx.heap.size) wx b r ∧ Below wr.heap.size wr wx

theorem kid_of {P : Nat → Prop} {w : World} {cb i b : Nat} {l t : ByteArray} (hp : P b) (hc : w.cell? ⟨cb, i, none⟩ = some (.pointer (some ⟨b, 0, none⟩))) (ht : Txt w b l t) : Kid P w cb i l t := ⟨b, hp, hc, ht⟩

theorem dsDone_noKey {wr wx : World} {r : DsRow} {cb c0 c1 c2 c3 : Nat} (h : DsNew wr wx r cb c0 c1 c2 c3) (hk : r.noKey) : DsDone wr wx (cb + 1) r := by
  have hlo := h.lo
  have hhi := h.hi
  have n0 := h.n0
  have n1 := h.n1
  have n2 := h.n2
  have n3 := h.n3
  have hc : ∀ i u, ([.pointer (some ⟨c0, 0, none⟩), .pointer (some ⟨c1, 0, none⟩), .pointer (some ⟨c2, 0, none⟩), .pointer (some ⟨c3, 0, none⟩)] : List Value)[i]? = some u → wx.cell? ⟨cb, i, none⟩ = some u := by
    intro i u hu
    rw [cell_of_row wx cb i _ 42 (0, 0) h.row]
    simpa using hu
  exact ⟨⟨⟨by omega, hhi⟩, h.c0, h.c1, h.c2, h.c4, cb, 4, 4, ⟨hlo, by omega⟩, h.c3, kid_of ⟨n0.1, by omega⟩ (hc 0 _ rfl) h.t0, kid_of ⟨n1.1, by omega⟩ (hc 1 _ rfl) h.t1, kid_of ⟨n2.1, by omega⟩ (hc 2 _ rfl) h.t2, kid_of ⟨n3.1, by omega⟩ (hc 3 _ rfl) h.t3, .inl ⟨hk, rfl⟩⟩, h.below⟩

theorem dsNew_own {wr wx wK : World} {r : DsRow} {cb c0 c1 c2 c3 : Nat} (h : DsNew wr wx r cb c0 c1 c2 c3) (hb : Below wx.heap.size wx wK) : wK.ownsRow (wr.heap.size + 1) 42 1 (.slice (some ⟨cb, 0, none⟩) 4 4) 4 [.pointer (some ⟨c0, 0, none⟩), .pointer (some ⟨c1, 0, none⟩), .pointer (some ⟨c2, 0, none⟩), .pointer (some ⟨c3, 0, none⟩)] := by
  have hlo := h.lo
  have hhi := h.hi
  exact ⟨rfl, .inr ⟨cb, 4, _, rfl, by omega, (hb.block cb (by omega)).trans h.row, by omega, by unfold maxLen; omega, rfl, rfl⟩⟩

theorem dsDone_key {wr wx wK w1 : World} {r : DsRow} {cb c0 c1 c2 c3 bk g cap : Nat} (h : DsNew wr wx r cb c0 c1 c2 c3) (hk : ¬ r.noKey) (hbK : Below wx.heap.size wx wK) (hkey : KeyEl (fun x => wx.heap.size ≤ x ∧ x < wK.heap.size) wK bk r.fl r.pr r.ka r.pk)
    (hown : w1.ownsRow (wr.heap.size + 1) 42 1 (.slice (some ⟨g, 0, none⟩) 5 cap) 5 ([.pointer (some ⟨c0, 0, none⟩), .pointer (some ⟨c1, 0, none⟩), .pointer (some ⟨c2, 0, none⟩), .pointer (some ⟨c3, 0, none⟩)] ++ [.pointer (some ⟨bk, 0, none⟩)]))
    (hgrow : (wK.alloc (.cells #[.pointer (some ⟨bk, 0, none⟩)] 42)).grownBy w1 (some cb)) (hat : cb = g ∨ g = (wK.alloc (.cells #[.pointer (some ⟨bk, 0, none⟩)] 42)).heap.size) :
    DsDone wr (w1.setCell ⟨cb + 1, 3, none⟩ (.slice (some ⟨g, 0, none⟩) 5 cap)) (cb + 1) r := by
  have hlo := h.lo
  have hhi := h.hi
  have n0 := h.n0
  have n1 := h.n1
  have n2 := h.n2
  have n3 := h.n3
  have s1 := hbK.size
  have s2 := hgrow.size
  simp at s2 hat
  have hgl := (hown.lt g rfl).2
  have hne : g ≠ cb + 1 := by omega
  have hbl : ∀ x, x < wK.heap.size → x ≠ cb → x ≠ cb + 1 → (w1.setCell ⟨cb + 1, 3, none⟩ (.slice (some ⟨g, 0, none⟩) 5 cap)).heap[x]? = wK.heap[x]? := by
    intro x hx h1 h2
    rw [block_setCell (by exact h2), hgrow.block x (by simp; omega) (by simpa using h1), Below.heap_alloc _ _ _ hx]
  have hcell1 : ∀ o, w1.cell? ⟨cb + 1, o, none⟩ = wx.cell? ⟨cb + 1, o, none⟩ := by
    intro o
    have e1 : w1.heap[cb + 1]? = wx.heap[cb + 1]? := by
      rw [hgrow.block (cb + 1) (by simp; omega) (by simp), Below.heap_alloc _ _ _ (by omega), hbK.block _ (by omega)]
    exact World.cell?_of_block (a := ⟨cb + 1, o, none⟩) e1
  have hel : ∀ o u, o ≠ 3 → wx.cell? ⟨cb + 1, o, none⟩ = some u → (w1.setCell ⟨cb + 1, 3, none⟩ (.slice (some ⟨g, 0, none⟩) 5 cap)).cell? ⟨cb + 1, o, none⟩ = some u := by
    intro o u ho hu
    exact cell_set_other ((hcell1 o).trans hu) (addr_ne_off (by omega))
  have h3 : w1.cell? ⟨cb + 1, 3, none⟩ = some (.slice (some ⟨cb, 0, none⟩) 4 4) := (hcell1 3).trans h.c3
  have hc : ∀ i u, ([.pointer (some ⟨c0, 0, none⟩), .pointer (some ⟨c1, 0, none⟩), .pointer (some ⟨c2, 0, none⟩), .pointer (some ⟨c3, 0, none⟩)] ++ [.pointer (some ⟨bk, 0, none⟩)] : List Value)[i]? = some u → (w1.setCell ⟨cb + 1, 3, none⟩ (.slice (some ⟨g, 0, none⟩) 5 cap)).cell? ⟨g, i, none⟩ = some u := by
    intro i u hu
    have hi : i < 5 := by
      have := (List.getElem?_eq_some_iff.1 hu).1
      simpa using this
    exact cell_set_other ((hown.cellAt i (by omega)).trans hu) (addr_ne_block (by omega))
  have hsz : (w1.setCell ⟨cb + 1, 3, none⟩ (.slice (some ⟨g, 0, none⟩) 5 cap)).heap.size = w1.heap.size := by simp [World.setCell]
  have htx : ∀ {b : Nat} {l t : ByteArray}, Txt wx b l t → b < cb → Txt (w1.setCell ⟨cb + 1, 3, none⟩ (.slice (some ⟨g, 0, none⟩) 5 cap)) b l t := by
    intro b l t ht hb
    exact (ht.below hbK).same (hbl b (by omega) (by omega) (by omega))
  refine ⟨⟨⟨by omega, by rw [hsz]; omega⟩, hel 0 _ (by omega) h.c0, hel 1 _ (by omega) h.c1, hel 2 _ (by omega) h.c2, hel 4 _ (by omega) h.c4, g, 5, cap, ⟨by omega, by rw [hsz]; omega⟩, World.cell?_setCell_same _ _ _ h3,
    kid_of ⟨n0.1, by rw [hsz]; omega⟩ (hc 0 _ rfl) (htx h.t0 n0.2), kid_of ⟨n1.1, by rw [hsz]; omega⟩ (hc 1 _ rfl) (htx h.t1 n1.2), kid_of ⟨n2.1, by rw [hsz]; omega⟩ (hc 2 _ rfl) (htx h.t2 n2.2), kid_of ⟨n3.1, by rw [hsz]; omega⟩ (hc 3 _ rfl) (htx h.t3 n3.2), .inr ⟨hk, rfl, bk, hc 4 _ rfl, ?_⟩⟩, ?_⟩
  · exact hkey.same (fun x hx => hbl x hx.2 (by omega) (by omega)) (fun x hx => ⟨by omega, by rw [hsz]; omega⟩)
  · refine Below.setCell ?_ (by show wr.heap.size ≤ cb + 1; omega) _
    exact ((h.below.trans (hbK.mono (by omega))).alloc (by omega) _).grown hgrow (by simp; omega) (by intro k hk; cases hk; omega)

theorem ba_nil {s : ByteArray} (h : s.toList = []) : s = ⟨#[]⟩ := by
  rw [ByteArray.toList_eq] at h
  obtain ⟨⟨x⟩⟩ := s
  simp at h
  subst h
  rfl

theorem inf_own {w wr wx : World} {I off k : Nat} {msl : Int} {rows : Nat → DsRow} {v : Value} {xs : List Value} (h : Inf w I off k msl rows v xs wr) (hb : Below wr.heap.size wr wx) : wx.ownsRow (I + 1) 42 1 v (off + k) xs := by
  have hlt := h.own.lt
  refine ⟨h.own.1, ?_⟩
  rcases h.own.2 with hn | ⟨g, cap, cur, rfl, hbb, hgg, rest⟩
  · exact .inl hn
  · exact .inr ⟨g, cap, cur, rfl, hbb, (hb.block g (hlt g rfl).2).trans hgg, rest⟩

theorem inf_step {w wr wx w1 : World} {I off k b g cap : Nat} {msl : Int} {rows : Nat → DsRow} {v : Value} {xs : List Value} (h : Inf w I off k msl rows v xs wr) (hdone : DsDone wr wx b (rows k))
    (hown : w1.ownsRow (I + 1) 42 1 (.slice (some ⟨g, 0, none⟩) (off + k + 1) cap) (off + k + 1) (xs ++ [.pointer (some ⟨b, 0, none⟩)]))
    (hgrow : (wx.alloc (.cells #[.pointer (some ⟨b, 0, none⟩)] 42)).grownBy w1 v.ownBlock) (hat : v.ownBlock = some g ∨ g = (wx.alloc (.cells #[.pointer (some ⟨b, 0, none⟩)] 42)).heap.size) :
    Inf w I off (k + 1) msl rows (.slice (some ⟨g, 0, none⟩) (off + k + 1) cap) (xs ++ [.pointer (some ⟨b, 0, none⟩)]) (w1.setCell ⟨I, 3, none⟩ (.slice (some ⟨g, 0, none⟩) (off + k + 1) cap)) := by
  obtain ⟨hel, hbx⟩ := hdone
  have hI := h.size
  have hlo := h.lo
  have s1 := hbx.size
  have s2 := hgrow.size
  simp at s2
  have hvlt := h.own.lt
  have hxl := h.own.1
  have hgl := hown.lt g rfl
  have hneI : some I ≠ v.ownBlock := fun e => by have := (hvlt I e.symm).1; omega
  have hsz : (w1.setCell ⟨I, 3, none⟩ (.slice (some ⟨g, 0, none⟩) (off + k + 1) cap)).heap.size = w1.heap.size := by simp [World.setCell]
  have hbl : ∀ x, x < wx.heap.size → some x ≠ v.ownBlock → x ≠ I → (w1.setCell ⟨I, 3, none⟩ (.slice (some ⟨g, 0, none⟩) (off + k + 1) cap)).heap[x]? = wx.heap[x]? := by
    intro x hx h1 h2
    rw [block_setCell (by exact h2), hgrow.block x (by simp; omega) h1, Below.heap_alloc _ _ _ hx]
  have hbl2 : ∀ x, x < wr.heap.size → some x ≠ v.ownBlock → x ≠ I → (w1.setCell ⟨I, 3, none⟩ (.slice (some ⟨g, 0, none⟩) (off + k + 1) cap)).heap[x]? = wr.heap[x]? := by
    intro x hx h1 h2
    rw [hbl x (by omega) h1 h2, hbx.block x hx]
  have hcI : ∀ o, w1.cell? ⟨I, o, none⟩ = wr.cell? ⟨I, o, none⟩ := by
    intro o
    have e1 : w1.heap[I]? = wr.heap[I]? := by
      rw [hgrow.block I (by simp; omega) hneI, Below.heap_alloc _ _ _ (by omega), hbx.block _ (by omega)]
    exact World.cell?_of_block (a := ⟨I, o, none⟩) e1
  have hfI : w1.frozen? ⟨I, 3, none⟩ = wr.frozen? ⟨I, 3, none⟩ := by
    have e1 : w1.heap[I]? = wr.heap[I]? := by
      rw [hgrow.block I (by simp; omega) hneI, Below.heap_alloc _ _ _ (by omega), hbx.block _ (by omega)]
    exact World.frozen?_of_block (a := ⟨I, 3, none⟩) e1
  have gne : ∀ x, x < wx.heap.size → some x ≠ v.ownBlock → x ≠ g := by
    intro x hx h1 e
    subst e
    rcases hat with hat | hat
    · exact h1 hat.symm
    · simp at hat; omega
  have c3 : w1.cell? ⟨I, 3, none⟩ = some v := (hcI 3).trans h.c3
  refine ⟨cell_set_other ((hcI 0).trans h.c0) (addr_ne_off (by omega)), cell_set_other ((hcI 1).trans h.c1) (addr_ne_off (by omega)), cell_set_other ((hcI 2).trans h.c2) (addr_ne_off (by omega)), World.cell?_setCell_same _ _ _ c3, cell_set_other ((hcI 4).trans h.c4) (addr_ne_off (by omega)), by rw [World.frozen?_setCell, hfI]; exact h.f3, ownsRow_setCell_below hown (by show I < I + 1; omega) _, ?_, ?_, ?_, by rw [hsz]; omega, hlo⟩
  · intro ho
    obtain ⟨b0, ⟨q1, q2, q3⟩, q4, q5⟩ := h.first ho
    refine ⟨b0, ⟨q1, by rw [hsz]; omega, by simp [Value.ownBlock]; exact gne b0 (by omega) q3⟩, ?_, q5.same (hbl2 b0 q2 q3 (by omega))⟩
    rw [List.getElem?_append_left (by omega)]
    exact q4
  · intro i hi
    by_cases e : i = k
    · subst e
      refine ⟨b, by rw [List.getElem?_append_right (by omega)]; simp [hxl], hel.same (fun x hx => hbl x hx.2 ?_ (by omega)) (fun x hx => ⟨by omega, by rw [hsz]; omega, ?_⟩)⟩
      · intro e'; have := (hvlt x e'.symm).2; omega
      · have hxv : some x ≠ v.ownBlock := by intro e'; have := (hvlt x e'.symm).2; omega
        simp [Value.ownBlock]; exact gne x hx.2 hxv
    · obtain ⟨b', q1, q2⟩ := h.els i (by omega)
      refine ⟨b', by rw [List.getElem?_append_left (by omega)]; exact q1, q2.same (fun x hx => hbl2 x hx.2.1 hx.2.2 (by omega)) (fun x hx => ⟨hx.1, by rw [hsz]; omega, ?_⟩)⟩
      simp [Value.ownBlock]; exact gne x (by omega) hx.2.2
  · refine Below.setCell ?_ (by show w.heap.size ≤ I; omega) _
    exact ((h.below.trans (hbx.mono (by have := h.below.size; omega))).alloc (by have := h.below.size; omega) _).grown hgrow (by have := h.below.size; simp; omega) (by intro x hx; have := (hvlt x hx).1; omega)

/-- What 'secDNSInfData' leaves. -/
def InfMade (n : Nat) (msl : Int) (rows : Nat → DsRow) (w : World) (e : Ending) (w' : World) : Prop :=
  ∃ I off v xs, e = .returned (.pointer (some ⟨I, 0, none⟩)) ∧ (off = if 0 < msl then 1 else 0) ∧ Inf w I off n msl rows v xs w'

theorem RowsAt.below {w wr : World} {da : Option Addr} {n : Nat} {rows : Nat → DsRow} (h : RowsAt w da n rows) (hb : Below w.heap.size w wr) : RowsAt wr da n rows := by
  intro i hi
  obtain ⟨hok, b, o, e, hr⟩ := h i hi
  refine ⟨hok, b, o, e, fun j v hv => ?_⟩
  have := hr j v hv
  exact (hb.cell (World.block_lt_of_cell? w _ this)).trans this

theorem size30 : (Ybad.prog.info? 30).map (·.size) = some 8 := by kernel_rfl

set_option maxRecDepth 100000 in
set_option maxHeartbeats 2000000 in
theorem inf_any (cs : Array Value) (msl : Int) (da : Option Addr) (n dc : Nat) (rows : Nat → DsRow) (w : World) (hm1 : msl ≤ 9223372036854775807) (hn : n ≤ 65536) (h3 : cs[3]? = some (.slice da n dc)) (h4 : cs[4]? = some (.int .i64 msl)) (hrow : RowsAt w da n rows) (htab : Lib.TabIs Ybad.prog w "internal/strconv.uint64pow10" .u64 Lib.pow10Tab) :
    Calls Ybad.prog 4 #[.agg cs] w (InfMade n msl rows w) := by
  have HTAB : Hid (Lib.TabIs Ybad.prog w "internal/strconv.uint64pow10" .u64 Lib.pow10Tab) := htab
  have HROW : Hid (RowsAt w da n rows) := hrow
  clear htab hrow
  obtain ⟨i0, hi, hz0, hz1, hz2⟩ := info_parts info42
  go_enter Ybad.func4, Ybad.ntmps4
  go_upto_if 11 with (go_at_call 7; refine (new_any _ _ _ _ _ _).mono ?_; rintro e w' ⟨rfl, rfl⟩)
  go_cut [3] (fun v wx => v = .pointer (some ⟨w.heap.size + 1, 0, none⟩) ∧ wx.cell? ⟨w.heap.size, 3, none⟩ = some (.slice da n dc) ∧ ∃ off v xs, (off = if 0 < msl then 1 else 0) ∧ Inf w (w.heap.size + 1) off 0 msl rows v xs wx)
  case first =>
    by_cases hm : 0 < msl
    · go_upto_region 3 with fail
      go_region_law (first | (refine step_append_lies _ rfl (.tmp 16) (.tmp 22) 47 rfl (w.heap.size + 2) 42 i0 (.pointer none) 1 8 Ybad.underlying47 hi hz0 hz1 hz2 rfl (by decide) (.slice none 0 0) 0 [] (by simp [Act.eval, Act.put]) (World.ownsRow_nil _ _ _ _) ⟨wT.heap.size, 0, none⟩ 1 1 [.pointer (some ⟨b, 0, none⟩)] (by simp [Act.eval, Act.put]) rfl (cell_one_new _ _ _) (by intro u hu; simp at hu; subst hu; rfl) (by omega) (by unfold maxLen; omega) (by omega) (by simp; omega) _ rfl ?_; intro g cap w1 hown hgrow hat hlt; have hc1 : w1.cell? ⟨w.heap.size + 1, 3, none⟩ = some (.slice none 0 0) := hgrow.cell (a := ⟨w.heap.size + 1, 3, none⟩) ((World.cell?_alloc_lt _ _ _ (by show w.heap.size + 1 < _; omega)).trans hcT) (by simp [Value.ownBlock]); have hf1 : w1.frozen? ⟨w.heap.size + 1, 3, none⟩ = false := (World.frozen?_of_block (a := ⟨w.heap.size + 1, 3, none⟩) (hgrow.block _ (by simp; omega) (by simp [Value.ownBlock]))).trans ((World.frozen?_alloc_past _ _ _ (by omega)).trans hfT)) | (go_simp; go_at_call 9; refine (itoa_any _ _ (by omega) (by omega) (tab_two HTAB.out _ _)).mono ?_; rintro e wI ⟨rfl, hbI⟩; have hcI : wI.cell? ⟨w.heap.size + 1, 3, none⟩ = some (.slice none 0 0) := (hbI.cell (by simp)).trans (by simp); have hfI : wI.frozen? ⟨w.heap.size + 1, 3, none⟩ = false := (hbI.frozen (by simp)).trans (by simp); have hzI : w.heap.size + 1 < wI.heap.size := (by have := hbI.size; simp at this; omega); dsimp only) | (go_simp; go_at_call 8; refine (newText_made _ _ _).mono ?_; rintro e wT ⟨b, rfl, hb1, hb2, htx, hbT⟩; have hcT : wT.cell? ⟨w.heap.size + 1, 3, none⟩ = some (.slice none 0 0) := (hbT.cell (by show w.heap.size + 1 < _; omega)).trans hcI; have hfT : wT.frozen? ⟨w.heap.size + 1, 3, none⟩ = false := (hbT.frozen (by show w.heap.size + 1 < _; omega)).trans hfI; have hzT : w.heap.size + 1 < wT.heap.size := Nat.lt_of_lt_of_le hzI hbT.size; dsimp only))
      all_goals
        go_wp2
        go_meet
        case rel =>
          have R := inf_first (rows := rows) hbI hb1 htx hbT (by simpa using hown) (by simpa [Value.ownBlock] using hgrow) (by simpa [Value.ownBlock] using hat)
          exact ⟨rfl, by rw [R.1, h3], 1, _, _, by rw [if_pos hm], R.2⟩
    · go_wp2
      go_meet
      case rel =>
        refine ⟨rfl, ?_, 0, .slice none 0 0, [], by rw [if_neg (by omega)], ⟨by simp, by simp, by simp, by simp, by simp, by simp, World.ownsRow_nil _ _ _ _, fun h => by omega, fun i hi => absurd hi (Nat.not_lt_zero _), ((Below.refl _ _).alloc (Nat.le_refl _) _).alloc (by simp) _, by simp, by omega⟩⟩
        simp [h3]
  case rest =>
    obtain ⟨rfl, hd3, off, v0, xs0, hoff, hinf0⟩ := hcut
    have HINF0 : Hid (Inf w (w.heap.size + 1) off 0 msl rows v0 xs0 wc) := hinf0
    have HOFF : Hid (off = if 0 < msl then 1 else 0) := hoff
    have hoff1 : off ≤ 1 := by rw [hoff]; split <;> omega
    clear hinf0 hoff h3 h4
    go_wp2
    go_loopw [30] (fun i wr => ∃ (k : Nat) (v : Value) (xs : List Value), k ≤ n ∧ i = .int .i64 k ∧ Inf w (w.heap.size + 1) off k msl rows v xs wr) (fun i _ => n - (intOf i).toNat)
    case atStart => exact ⟨0, v0, xs0, Nat.zero_le _, rfl, HINF0.out⟩
    case round =>
      obtain ⟨k, v, xs, hk, rfl, hinf⟩ := hrel
      have HINF : Hid (Inf w (w.heap.size + 1) off k msl rows v xs wr) := hinf
      have HTABR : Hid (Lib.TabIs Ybad.prog wr "internal/strconv.uint64pow10" .u64 Lib.pow10Tab) := tab_below hinf.below HTAB.out
      have HROWR : Hid (RowsAt wr da n rows) := HROW.out.below hinf.below
      have hIs := hinf.size
      clear hinf HINF0 hd3
      by_cases hlt : k < n
      · obtain ⟨hok, b, o, rfl, hr⟩ := HROWR.out k hlt
        have HR : Hid (wr.rangeAt b (o + k * 8) (rowCells (rows k))) := hr
        clear hr HROWR
        generalize hr : rows k = r at *
        have Hr : Hid (rows k = r) := hr
        clear hr
        obtain ⟨⟨k0, k1⟩, ⟨a0, a1⟩, ⟨t0, t1⟩, ⟨f0, f1⟩, ⟨p0, p1⟩, ⟨l0, l1⟩⟩ := hok
        go_upto_region 7 with ((with_reducible apply wpList_load_mid (ty := 30) (x := .tmp 32) (cs := [.int .u16 r.kt, .int .u8 r.alg, .int .u8 r.dt, .string r.dg, .int .u16 r.fl, .int .u8 r.pr, .int .u8 r.ka, .string r.pk]) (hu := Ybad.underlying30)); rfl; rfl; rfl; exact HR.out; rfl; exact size30)
        have hw1 : IntKind.i64.wrap r.kt = r.kt := wrap_small k0 k1
        have hw2 : IntKind.i64.wrap r.alg = r.alg := wrap_small a0 (by omega)
        have hw3 : IntKind.i64.wrap r.dt = r.dt := wrap_small t0 (by omega)
        go_cut [6] (fun v wx => ∃ cb b0 b1 b2 b3, v = .pointer (some ⟨cb + 1, 0, none⟩) ∧ DsNew wr wx r cb b0 b1 b2 b3)
        case first =>
          go_region_held3 (fun w' => w'.cell? ⟨wr.heap.size, 0, none⟩ = some (.int .u16 r.kt) ∧ w'.cell? ⟨wr.heap.size, 1, none⟩ = some (.int .u8 r.alg) ∧ w'.cell? ⟨wr.heap.size, 2, none⟩ = some (.int .u8 r.dt) ∧ w'.cell? ⟨wr.heap.size, 3, none⟩ = some (.string r.dg) ∧ wr.heap.size < w'.heap.size ∧ Below wr.heap.size wr w') (first | exact ds_start _ _ | exact ds_below (by assumption) (by assumption) | exact ds_alloc (by assumption)) (first | (go_at_call 9; refine (itoa_any _ _ (by omega) (by omega) (tab_of (by assumption) HTABR.out)).mono ?_; rintro e w' ⟨rfl, hb⟩) | (go_at_call 8; refine (newText_made _ _ _).mono ?_; rintro e w' ⟨b, rfl, hb1, hb2, htx, hb⟩) | (go_at_call 7; refine (new_any _ _ _ _ _ _).mono ?_; rintro e w' ⟨rfl, rfl⟩))
          go_wp2
          go_meet
          case rel =>
            rename_i w1 e1 w2 b1 x1 x2 u1 e2 w3 e3 w4 b2 y1 y2 u2 e4 w5 e5 w6 b3 z1 z2 u3 e6 hH
            have s1 := e1.size
            have s2 := e2.size
            have s3 := e3.size
            have s4 := e4.size
            have s5 := e5.size
            have s6 := e6.size
            have s7 := hb.size
            simp at s1
            exact ⟨_, b1, b2, b3, _, rfl, dsNew_of ((((((((e1.mono (by simp)).trans (e2.mono (by omega))).trans (e3.mono (by omega))).trans (e4.mono (by omega))).trans (e5.mono (by omega))).trans (e6.mono (by omega))).trans (hb.mono (by omega)))) (by omega) (by omega) (by omega) (by omega) (((((u1.below e3).below e4).below e5).below e6).below hb) (((u2.below e5).below e6).below hb) (u3.below hb) htx⟩
        case rest =>
          obtain ⟨cb, c0, c1, c2, c3, rfl, hnew⟩ := hcut
          obtain ⟨WN, rfl⟩ : ∃ W, W = wc := ⟨_, rfl⟩
          have HNEW : Hid (DsNew wr WN r cb c0 c1 c2 c3) := hnew
          have d4 := hnew.d4
          have d5 := hnew.d5
          have d6 := hnew.d6
          have d7 := hnew.d7
          clear hnew HR
          go_upto_region 8 with fail
          by_cases hk : r.noKey
          · have HK : Hid r.noKey := hk
            obtain ⟨q1, q2, q3, q4⟩ := hk
            rw [q1] at d4
            rw [q2] at d5
            rw [q3] at d6
            rw [q4] at d7
            clear q1 q2 q3 q4
            go_upto_if 57 with fail
            go_cut [6] (fun v wx => ∃ b, v = .pointer (some ⟨b, 0, none⟩) ∧ DsDone wr wx b r)
            case first =>
              go_wp2
              go_meet
              case rel => exact ⟨_, rfl, dsDone_noKey HNEW.out HK.out⟩
            case rest =>
              obtain ⟨bd, rfl, hdone⟩ := hcut
              obtain ⟨WX, rfl⟩ : ∃ W, W = wc := ⟨_, rfl⟩
              have HDONE : Hid (DsDone wr WX bd r) := hdone
              have hsX := hdone.2.size
              have hcX : WX.cell? ⟨w.heap.size + 1, 3, none⟩ = some v := (hdone.2.cell (by show w.heap.size + 1 < _; omega)).trans HINF.out.c3
              have hfX : WX.frozen? ⟨w.heap.size + 1, 3, none⟩ = false := (hdone.2.frozen (by show w.heap.size + 1 < _; omega)).trans HINF.out.f3
              have hzX : w.heap.size + 1 < WX.heap.size := by omega
              clear hdone
              go_wp2_with ((with_reducible apply wpList_append_lies (s := .tmp 74) (x := .tmp 76) (t := 47) (base := w.heap.size + 2) (ht := Ybad.underlying47) (hi := hi) (hz := hz0) (hsize := hz1) (hby := hz2) (news := [.pointer (some ⟨bd, 0, none⟩)]) (xs := xs) (n := off + k) (v := v) (ad := ⟨WX.heap.size, 0, none⟩) (m := 1) (c := 1) (hH := rfl)); rfl; rfl; rfl; decide; rfl)
              try (case hown => exact (inf_own HINF.out HDONE.out.2).alloc _)
              try (case hx => rfl)
              try (case hl => rfl)
              try (case hnews => exact cell_one_new _ _ _)
              try (case h1 => first | rfl | (intro u hu; simp at hu; subst hu; rfl))
              try (case hm => omega)
              try (case h63 => first | omega | (unfold maxLen; omega))
              try (case hbytes => omega)
              try (case hbase => first | omega | (simp; omega))
              intro g cap w1 hown hgrow hat hlt1
              have hneI : some (w.heap.size + 1) ≠ v.ownBlock := fun e => by have := (HINF.out.own.lt _ e.symm).1; omega
              have hc1 : w1.cell? ⟨w.heap.size + 1, 3, none⟩ = some v := hgrow.cell (a := ⟨w.heap.size + 1, 3, none⟩) ((World.cell?_alloc_lt _ _ _ (by exact hzX)).trans hcX) hneI
              have hf1 : w1.frozen? ⟨w.heap.size + 1, 3, none⟩ = false := (World.frozen?_of_block (a := ⟨w.heap.size + 1, 3, none⟩) (hgrow.block _ (by simp; omega) hneI)).trans ((World.frozen?_alloc_past _ _ _ (by exact hzX)).trans hfX)
              have HSTEP : Hid (Inf w (w.heap.size + 1) off (k + 1) msl rows (.slice (some ⟨g, 0, none⟩) (off + k + 1) cap) (xs ++ [.pointer (some ⟨bd, 0, none⟩)]) (w1.setCell ⟨w.heap.size + 1, 3, none⟩ (.slice (some ⟨g, 0, none⟩) (off + k + 1) cap))) := inf_step HINF.out (by rw [Hr.out]; exact HDONE.out) hown hgrow (by simpa using hat)
              clear hown hgrow hat hneI
              go_wp2
              go_roundw
              case rel => exact ⟨k + 1, _, _, by omega, by go_num, HSTEP.out⟩
              case measure => simp [intOf]; omega
          · have HK : Hid (¬ r.noKey) := hk
            go_cut [57] (fun v wx => v = .bool true ∧ wx = WN)
            case first =>
              go_wp2
              · exact absurd ⟨by assumption, by assumption, by assumption, ba_nil (by assumption)⟩ HK.out
              all_goals
                go_meet
                case rel => exact ⟨rfl, rfl⟩
            case rest =>
              obtain ⟨rfl, hwc⟩ := hcut
              have hwc2 := hwc.symm
              subst hwc2
              clear hk
              go_upto_if 57 with fail
              go_cut [6] (fun v wx => ∃ b, v = .pointer (some ⟨b, 0, none⟩) ∧ DsDone wr wx b r)
              case first =>
                have hN1 := HNEW.out.lo
                have hN2 := HNEW.out.hi
                have hN3 := HNEW.out.c3
                have hN4 := HNEW.out.f3
                have HTABN : Hid (Lib.TabIs Ybad.prog WN.drew "internal/strconv.uint64pow10" .u64 Lib.pow10Tab) := tab_below HNEW.out.below.drew HTABR.out
                go_upto_region 9 with fail
                go_region_law (first | (refine step_append_lies _ rfl (.tmp 62) (.tmp 66) 47 rfl (wr.heap.size + 1) 42 i0 (.pointer none) 1 8 Ybad.underlying47 hi hz0 hz1 hz2 rfl (by decide) (.slice (some ⟨cb, 0, none⟩) 4 4) 4 [.pointer (some ⟨c0, 0, none⟩), .pointer (some ⟨c1, 0, none⟩), .pointer (some ⟨c2, 0, none⟩), .pointer (some ⟨c3, 0, none⟩)] (by simp [Act.eval, Act.put]) ((dsNew_own HNEW.out hbK).alloc _) ⟨wK.heap.size, 0, none⟩ 1 1 [.pointer (some ⟨bk, 0, none⟩)] (by simp [Act.eval, Act.put]) rfl (cell_one_new _ _ _) (by intro u hu; simp at hu; subst hu; rfl) (by omega) (by unfold maxLen; omega) (by omega) (by simp; omega) _ rfl ?_; intro g cap w1 hown hgrow hat hlt1; have hc1 : w1.cell? ⟨cb + 1, 3, none⟩ = some (.slice (some ⟨cb, 0, none⟩) 4 4) := hgrow.cell (a := ⟨cb + 1, 3, none⟩) ((World.cell?_alloc_lt _ _ _ (by exact hzK)).trans hcK) (by simp [Value.ownBlock]); have hf1 : w1.frozen? ⟨cb + 1, 3, none⟩ = false := (World.frozen?_of_block (a := ⟨cb + 1, 3, none⟩) (hgrow.block _ (by simp; omega) (by simp [Value.ownBlock]))).trans ((World.frozen?_alloc_past _ _ _ (by exact hzK)).trans hfK)) | (go_simp; go_at_call 10; refine (keyData_any _ _ _ _ _ f0 f1 p0 p1 l0 l1 HTABN.out).mono ?_; rintro e wK ⟨bk, rfl, hkey, hbK0⟩; have hbK : Below WN.heap.size WN wK := (Below.refl _ WN).drew.trans hbK0; have hzK : cb + 1 < wK.heap.size := Nat.lt_of_lt_of_le hN2 hbK.size; have hcK : wK.cell? ⟨cb + 1, 3, none⟩ = some (.slice (some ⟨cb, 0, none⟩) 4 4) := (hbK.cell (by exact hN2)).trans hN3; have hfK : wK.frozen? ⟨cb + 1, 3, none⟩ = false := (hbK.frozen (by exact hN2)).trans hN4; dsimp only))
                all_goals
                  go_wp2
                  go_meet
                  case rel => exact ⟨_, rfl, dsDone_key HNEW.out HK.out hbK (by simpa using hkey) (by simpa using hown) (by simpa [Value.ownBlock] using hgrow) (by simpa [Value.ownBlock] using hat)⟩
              case rest =>
                obtain ⟨bd, rfl, hdone⟩ := hcut
                obtain ⟨WX, rfl⟩ : ∃ W, W = wc := ⟨_, rfl⟩
                have HDONE : Hid (DsDone wr WX bd r) := hdone
                have hsX := hdone.2.size
                have hcX : WX.cell? ⟨w.heap.size + 1, 3, none⟩ = some v := (hdone.2.cell (by show w.heap.size + 1 < _; omega)).trans HINF.out.c3
                have hfX : WX.frozen? ⟨w.heap.size + 1, 3, none⟩ = false := (hdone.2.frozen (by show w.heap.size + 1 < _; omega)).trans HINF.out.f3
                have hzX : w.heap.size + 1 < WX.heap.size := by omega
                clear hdone
                go_wp2_with ((with_reducible apply wpList_append_lies (s := .tmp 74) (x := .tmp 76) (t := 47) (base := w.heap.size + 2) (ht := Ybad.underlying47) (hi := hi) (hz := hz0) (hsize := hz1) (hby := hz2) (news := [.pointer (some ⟨bd, 0, none⟩)]) (xs := xs) (n := off + k) (v := v) (ad := ⟨WX.heap.size, 0, none⟩) (m := 1) (c := 1) (hH := rfl)); rfl; rfl; rfl; decide; rfl)
                try (case hown => exact (inf_own HINF.out HDONE.out.2).alloc _)
                try (case hx => rfl)
                try (case hl => rfl)
                try (case hnews => exact cell_one_new _ _ _)
                try (case h1 => first | rfl | (intro u hu; simp at hu; subst hu; rfl))
                try (case hm => omega)
                try (case h63 => first | omega | (unfold maxLen; omega))
                try (case hbytes => omega)
                try (case hbase => first | omega | (simp; omega))
                intro g cap w1 hown hgrow hat hlt1
                have hneI : some (w.heap.size + 1) ≠ v.ownBlock := fun e => by have := (HINF.out.own.lt _ e.symm).1; omega
                have hc1 : w1.cell? ⟨w.heap.size + 1, 3, none⟩ = some v := hgrow.cell (a := ⟨w.heap.size + 1, 3, none⟩) ((World.cell?_alloc_lt _ _ _ (by exact hzX)).trans hcX) hneI
                have hf1 : w1.frozen? ⟨w.heap.size + 1, 3, none⟩ = false := (World.frozen?_of_block (a := ⟨w.heap.size + 1, 3, none⟩) (hgrow.block _ (by simp; omega) hneI)).trans ((World.frozen?_alloc_past _ _ _ (by exact hzX)).trans hfX)
                have HSTEP : Hid (Inf w (w.heap.size + 1) off (k + 1) msl rows (.slice (some ⟨g, 0, none⟩) (off + k + 1) cap) (xs ++ [.pointer (some ⟨bd, 0, none⟩)]) (w1.setCell ⟨w.heap.size + 1, 3, none⟩ (.slice (some ⟨g, 0, none⟩) (off + k + 1) cap))) := inf_step HINF.out (by rw [Hr.out]; exact HDONE.out) hown hgrow (by simpa using hat)
                clear hown hgrow hat hneI
                go_wp2
                go_roundw
                case rel => exact ⟨k + 1, _, _, by omega, by go_num, HSTEP.out⟩
                case measure => simp [intOf]; omega
      · have hkn : n = k := by omega
        subst hkn
        go_wp2
        go_ret
        exact ⟨_, off, v, xs, rfl, HOFF.out, HINF.out⟩
end Go.Proofs.YbulkebxyDoor
