import Derived.Test.YbulkebzoFmtTail
namespace Go.Proofs.YbulkebzoFmt
open Go.ChangeShapes Go.WideShapes Go.ChangeAt Go.RowKit Go.Extern.Stop Go.Stop Go.Extern Go.Lib
set_option maxRecDepth 100000
set_option linter.unusedVariables false
set_option linter.unusedSimpArgs false

def lenOf2 : Value → Nat
  | .int _ n => n.toNat
  | _ => 0

/-- The numbers that came in. -/
def Nums (w : World) (a : Option Addr) (n : Nat) (f : Nat → Int) : Prop := ∀ i, i < n → ∃ b o, a = some ⟨b, o, none⟩ ∧ b < w.heap.size ∧ w.cell? ⟨b, o + i, none⟩ = some (.int .u8 (f i)) ∧ 0 ≤ f i ∧ f i < 256

theorem own_alloc' {w0 w : World} {cap k : Nat} {xs : List Int} (h : Bd w0 w cap xs) (hk : xs.length = k) (o : Obj) : (w.alloc o).ownsRow w0.heap.size 5 1 (.slice (some ⟨w0.heap.size, 0, none⟩) k cap) k (xs.map (Value.int .u8)) := by
  subst hk
  exact own_alloc h o
theorem bd_app1 {w0 w w' : World} {cap k : Nat} {xs : List Int} {o : Obj} (h : Bd w0 w cap xs) (hk : xs.length = k) (y : Int) (hy : 0 ≤ y ∧ y < 256) (ho : w'.ownsRow w0.heap.size 5 1 (.slice (some ⟨w0.heap.size, 0, none⟩) (k + 1) cap) (k + 1) (xs.map (Value.int .u8) ++ [.int .u8 y])) (hg : (w.alloc o).grownBy w' (some w0.heap.size)) (hfit : k + 1 ≤ cap) :
    ∃ xs' : List Int, xs'.length = k + 1 ∧ Bd w0 w' cap xs' := by
  subst hk
  exact ⟨xs ++ [y], by simp, h.app (news := [y]) ((Below.refl _ _).alloc (Nat.le_refl _) _) (by intro z hz; simp at hz; subst hz; exact hy) (by simpa using hfit) ho hg⟩
theorem bd_app2 {w0 w w' : World} {cap k : Nat} {xs : List Int} {o : Obj} (h : Bd w0 w cap xs) (hk : xs.length = k) (ho : w'.ownsRow w0.heap.size 5 1 (.slice (some ⟨w0.heap.size, 0, none⟩) (k + 2) cap) (k + 2) (xs.map (Value.int .u8) ++ [.int .u8 10, .int .u8 10])) (hg : (w.alloc o).grownBy w' (some w0.heap.size)) (hfit : k + 2 ≤ cap) :
    ∃ xs' : List Int, xs'.length = k + 2 ∧ Bd w0 w' cap xs' := by
  subst hk
  exact ⟨xs ++ [10, 10], by simp, h.app (news := [10, 10]) ((Below.refl _ _).alloc (Nat.le_refl _) _) (by intro z hz; simp at hz; subst hz; omega) (by simpa using hfit) ho hg⟩
theorem cells_new (w : World) (vs : List Value) (t : TypeId) : ∀ j u, vs[j]? = some u → (w.alloc (.cells vs.toArray t)).cell? ((⟨w.heap.size, 0, none⟩ : Addr).add j) = some u := fun j u h => by
  rw [Addr.add_mid, Nat.zero_add]
  exact cell_of_row (heap_alloc_new w _) (by rw [List.getElem?_toArray]; exact h)
theorem u8_rng (y : UInt8) : 0 ≤ (y.toNat : Int) ∧ (y.toNat : Int) < 256 := by
  have := UInt8.toNat_lt y
  omega
def mkRd (bd L cd : Nat) (ck fa : Int) (fl : Bool) (fb : Nat) (xs : List Int) : Rd := ⟨bd, L, cd, (1 + ck % 8).toNat, fl, (fa % 80).toNat, fb, fun i => xs.getD i 0⟩
/-- The world in which ReadKey is called. -/
def rdWorld (W5 : World) (bd L cap : Nat) (ck fa : Int) (fl : Bool) : World := (W5.alloc (.cells #[.string ⟨#[122, 122, 32, 115, 116, 97, 110, 100, 45, 105, 110, 32, 102, 97, 105, 108, 117, 114, 101]⟩] 41)).alloc (.cells #[.slice (some ⟨bd, 0, none⟩) L cap, .int .i64 0, .int .i64 (1 + ck % 8), .bool fl, .int .i64 (fa % 80), .iface 39 (.pointer (some ⟨W5.heap.size, 0, none⟩))] 29)
theorem rd_below (W5 : World) (bd L cap : Nat) (ck fa : Int) (fl : Bool) : Below W5.heap.size W5 (rdWorld W5 bd L cap ck fa fl) := ((Below.refl _ _).alloc (Nat.le_refl _) _).alloc (by simp) _
theorem rd_size (W5 : World) (bd L cap : Nat) (ck fa : Int) (fl : Bool) : (rdWorld W5 bd L cap ck fa fl).heap.size = W5.heap.size + 2 := by simp [rdWorld]
theorem rd_ok {w W5 : World} {n L : Nat} {xs : List Int} {ck fa : Int} {fl : Bool} {ae : Addr} (h : Bd w W5 (n + 10) xs) (hxl : xs.length = L) (hn : n < 140) (hck : 0 ≤ ck ∧ ck < 256) (hfa : 0 ≤ fa ∧ fa < 65536)
    (heof : w.cell? ⟨0, 0, none⟩ = some (.iface 39 (.pointer (some ae)))) (hrow : ∃ cs t, w.heap[ae.block]? = some (.cells cs t (0, 0))) {ev1 : Value} (hE : w.cell? ⟨1, 0, none⟩ = some ev1) :
    RdOk (mkRd w.heap.size L (n + 10) ck fa fl W5.heap.size xs) (rdWorld W5 w.heap.size L (n + 10) ck fa fl) (W5.heap.size + 1) ae ∧ (rdWorld W5 w.heap.size L (n + 10) ck fa fl).heap[W5.heap.size + 1]? = some (.cells (rcells (mkRd w.heap.size L (n + 10) ck fa fl W5.heap.size xs) 0) 29 (0, 0)) := by
  have hb := (h.below).trans ((rd_below W5 w.heap.size L (n + 10) ck fa fl).mono (Nat.le_of_lt h.size))
  have hs := h.size
  have h1 : 1 < w.heap.size := World.block_lt_of_cell? w _ hE
  have hfit := h.fit
  obtain ⟨cs, te, hte⟩ := hrow
  have hae : ae.block < w.heap.size := by
    rcases Nat.lt_or_ge ae.block w.heap.size with h | h
    · exact h
    · rw [Array.getElem?_eq_none h] at hte; simp at hte
  refine ⟨⟨by show w.heap.size < _; omega, by show W5.heap.size < _; omega, by show ae.block < W5.heap.size; omega, by show 2 ≤ W5.heap.size; omega, by show L ≤ 1000; omega, by show L ≤ n + 10; omega, by show n + 10 ≤ 1000; omega, ?_, ?_, ?_, ?_, ?_, ?_, ?_, ?_⟩, ?_⟩
  · show 1 ≤ (1 + ck % 8).toNat; omega
  · show (1 + ck % 8).toNat ≤ 8; omega
  · show (fa % 80).toNat < 80; omega
  · intro i hi
    show 0 ≤ xs.getD i 0 ∧ xs.getD i 0 < 256
    have hi' : i < xs.length := by have : i < L := hi; omega
    rw [show xs.getD i 0 = xs[i] by simp [List.getD, List.getElem?_eq_getElem hi']]
    exact h.rng _ (List.getElem_mem _)
  · intro i hi
    have hi' : i < xs.length := by have : i < L := hi; omega
    exact ((rd_below W5 w.heap.size L (n + 10) ck fa fl).cell (by show w.heap.size < W5.heap.size; omega)).trans (h.cell hi')
  · exact ⟨_, heap_alloc2_old _ _ _⟩
  · exact (hb.cell (by show 0 < w.heap.size; omega)).trans heof
  · exact ⟨cs, te, (hb.block _ hae).trans hte⟩
  · have e := heap_alloc2_new W5 (.cells #[.string ⟨#[122, 122, 32, 115, 116, 97, 110, 100, 45, 105, 110, 32, 102, 97, 105, 108, 117, 114, 101]⟩] 41) (.cells #[.slice (some ⟨w.heap.size, 0, none⟩) L (n + 10), .int .i64 0, .int .i64 (1 + ck % 8), .bool fl, .int .i64 (fa % 80), .iface 39 (.pointer (some ⟨W5.heap.size, 0, none⟩))] 29)
    unfold rdWorld
    rw [e]
    have e1 : ((1 + ck % 8).toNat : Int) = 1 + ck % 8 := by omega
    have e2 : ((fa % 80).toNat : Int) = fa % 80 := by omega
    simp only [rcells, mkRd, e1, e2]
    rfl

theorem tl_of {R : Rd} {w W6 w7 : World} {rb : Nat} {ae : Addr} {kk : List UInt8} {ev : Value} (hkp : KeyPost R rb W6 kk ev w7) (hok : RdOk R W6 rb ae) (hb6 : Below w.heap.size w W6) (hrb : w.heap.size ≤ rb) (hrb6 : rb < W6.heap.size) (hs : w.heap.size ≤ W6.heap.size) :
    ∃ pos, Tl R w (((w7.alloc (.cells #[.int .u8 0, .int .u8 0, .int .u8 0, .int .u8 0, .int .u8 0, .int .u8 0, .int .u8 0, .int .u8 0, .int .u8 0, .int .u8 0, .int .u8 0, .int .u8 0, .int .u8 0, .int .u8 0, .int .u8 0, .int .u8 0, .int .u8 0, .int .u8 0, .int .u8 0, .int .u8 0, .int .u8 0, .int .u8 0, .int .u8 0, .int .u8 0, .int .u8 0, .int .u8 0, .int .u8 0, .int .u8 0, .int .u8 0, .int .u8 0, .int .u8 0, .int .u8 0] 31)).setCells w7.heap.size 0 (kk.map cell)).alloc (.cells #[.int .u8 0, .int .u8 0, .int .u8 0, .int .u8 0, .int .u8 0, .int .u8 0, .int .u8 0, .int .u8 0, .int .u8 0, .int .u8 0, .int .u8 0, .int .u8 0, .int .u8 0, .int .u8 0, .int .u8 0, .int .u8 0, .int .u8 0, .int .u8 0, .int .u8 0, .int .u8 0, .int .u8 0, .int .u8 0, .int .u8 0, .int .u8 0, .int .u8 0, .int .u8 0, .int .u8 0, .int .u8 0, .int .u8 0, .int .u8 0, .int .u8 0, .int .u8 0] 31)) rb w7.heap.size ((w7.alloc (.cells #[.int .u8 0, .int .u8 0, .int .u8 0, .int .u8 0, .int .u8 0, .int .u8 0, .int .u8 0, .int .u8 0, .int .u8 0, .int .u8 0, .int .u8 0, .int .u8 0, .int .u8 0, .int .u8 0, .int .u8 0, .int .u8 0, .int .u8 0, .int .u8 0, .int .u8 0, .int .u8 0, .int .u8 0, .int .u8 0, .int .u8 0, .int .u8 0, .int .u8 0, .int .u8 0, .int .u8 0, .int .u8 0, .int .u8 0, .int .u8 0, .int .u8 0, .int .u8 0] 31)).setCells w7.heap.size 0 (kk.map cell)).heap.size pos kk ev := by
  obtain ⟨hkl, hb7, pos, hr7, hf, hnf⟩ := hkp
  have hbd := hok.hbd
  have hfb := hok.hfb
  have hrl : rb < w7.heap.size := by
    rcases Nat.lt_or_ge rb w7.heap.size with h | h
    · exact h
    · rw [Array.getElem?_eq_none h] at hr7; simp at hr7
  have hbA : Below w7.heap.size w7 ((w7.alloc (.cells #[.int .u8 0, .int .u8 0, .int .u8 0, .int .u8 0, .int .u8 0, .int .u8 0, .int .u8 0, .int .u8 0, .int .u8 0, .int .u8 0, .int .u8 0, .int .u8 0, .int .u8 0, .int .u8 0, .int .u8 0, .int .u8 0, .int .u8 0, .int .u8 0, .int .u8 0, .int .u8 0, .int .u8 0, .int .u8 0, .int .u8 0, .int .u8 0, .int .u8 0, .int .u8 0, .int .u8 0, .int .u8 0, .int .u8 0, .int .u8 0, .int .u8 0, .int .u8 0] 31)).setCells w7.heap.size 0 (kk.map cell)) := below_setCells ((Below.refl _ _).alloc (Nat.le_refl _) _) (Nat.le_refl _) _ _
  have hsA : w7.heap.size < ((w7.alloc (.cells #[.int .u8 0, .int .u8 0, .int .u8 0, .int .u8 0, .int .u8 0, .int .u8 0, .int .u8 0, .int .u8 0, .int .u8 0, .int .u8 0, .int .u8 0, .int .u8 0, .int .u8 0, .int .u8 0, .int .u8 0, .int .u8 0, .int .u8 0, .int .u8 0, .int .u8 0, .int .u8 0, .int .u8 0, .int .u8 0, .int .u8 0, .int .u8 0, .int .u8 0, .int .u8 0, .int .u8 0, .int .u8 0, .int .u8 0, .int .u8 0, .int .u8 0, .int .u8 0] 31)).setCells w7.heap.size 0 (kk.map cell)).heap.size := by
    have h1 : Below (w7.alloc (.cells #[.int .u8 0, .int .u8 0, .int .u8 0, .int .u8 0, .int .u8 0, .int .u8 0, .int .u8 0, .int .u8 0, .int .u8 0, .int .u8 0, .int .u8 0, .int .u8 0, .int .u8 0, .int .u8 0, .int .u8 0, .int .u8 0, .int .u8 0, .int .u8 0, .int .u8 0, .int .u8 0, .int .u8 0, .int .u8 0, .int .u8 0, .int .u8 0, .int .u8 0, .int .u8 0, .int .u8 0, .int .u8 0, .int .u8 0, .int .u8 0, .int .u8 0, .int .u8 0] 31)).heap.size (w7.alloc (.cells #[.int .u8 0, .int .u8 0, .int .u8 0, .int .u8 0, .int .u8 0, .int .u8 0, .int .u8 0, .int .u8 0, .int .u8 0, .int .u8 0, .int .u8 0, .int .u8 0, .int .u8 0, .int .u8 0, .int .u8 0, .int .u8 0, .int .u8 0, .int .u8 0, .int .u8 0, .int .u8 0, .int .u8 0, .int .u8 0, .int .u8 0, .int .u8 0, .int .u8 0, .int .u8 0, .int .u8 0, .int .u8 0, .int .u8 0, .int .u8 0, .int .u8 0, .int .u8 0] 31)) (w7.alloc (.cells #[.int .u8 0, .int .u8 0, .int .u8 0, .int .u8 0, .int .u8 0, .int .u8 0, .int .u8 0, .int .u8 0, .int .u8 0, .int .u8 0, .int .u8 0, .int .u8 0, .int .u8 0, .int .u8 0, .int .u8 0, .int .u8 0, .int .u8 0, .int .u8 0, .int .u8 0, .int .u8 0, .int .u8 0, .int .u8 0, .int .u8 0, .int .u8 0, .int .u8 0, .int .u8 0, .int .u8 0, .int .u8 0, .int .u8 0, .int .u8 0, .int .u8 0, .int .u8 0] 31)) := Below.refl _ _
    have h2 := (below_setCells (B := 0) (b := w7.heap.size) (Below.refl 0 (w7.alloc (.cells #[.int .u8 0, .int .u8 0, .int .u8 0, .int .u8 0, .int .u8 0, .int .u8 0, .int .u8 0, .int .u8 0, .int .u8 0, .int .u8 0, .int .u8 0, .int .u8 0, .int .u8 0, .int .u8 0, .int .u8 0, .int .u8 0, .int .u8 0, .int .u8 0, .int .u8 0, .int .u8 0, .int .u8 0, .int .u8 0, .int .u8 0, .int .u8 0, .int .u8 0, .int .u8 0, .int .u8 0, .int .u8 0, .int .u8 0, .int .u8 0, .int .u8 0, .int .u8 0] 31))) (Nat.zero_le _) (kk.map cell) 0).size
    simp at h2
    omega
  obtain ⟨W, hW⟩ : ∃ W, W = (w7.alloc (.cells #[.int .u8 0, .int .u8 0, .int .u8 0, .int .u8 0, .int .u8 0, .int .u8 0, .int .u8 0, .int .u8 0, .int .u8 0, .int .u8 0, .int .u8 0, .int .u8 0, .int .u8 0, .int .u8 0, .int .u8 0, .int .u8 0, .int .u8 0, .int .u8 0, .int .u8 0, .int .u8 0, .int .u8 0, .int .u8 0, .int .u8 0, .int .u8 0, .int .u8 0, .int .u8 0, .int .u8 0, .int .u8 0, .int .u8 0, .int .u8 0, .int .u8 0, .int .u8 0] 31)).setCells w7.heap.size 0 (kk.map cell) := ⟨_, rfl⟩
  have hkey : W.rangeAt w7.heap.size 0 (kk.map cell) := by
    rw [hW]
    refine World.rangeAt_setCells_same _ _ _ _ ?_
    rw [show (kk.map cell).length = 32 by simp [hkl]]
    exact there_new w7 #[.int .u8 0, .int .u8 0, .int .u8 0, .int .u8 0, .int .u8 0, .int .u8 0, .int .u8 0, .int .u8 0, .int .u8 0, .int .u8 0, .int .u8 0, .int .u8 0, .int .u8 0, .int .u8 0, .int .u8 0, .int .u8 0, .int .u8 0, .int .u8 0, .int .u8 0, .int .u8 0, .int .u8 0, .int .u8 0, .int .u8 0, .int .u8 0, .int .u8 0, .int .u8 0, .int .u8 0, .int .u8 0, .int .u8 0, .int .u8 0, .int .u8 0, .int .u8 0] 31
  rw [← hW] at hbA hsA ⊢
  have hb8 : Below W.heap.size W (W.alloc (.cells #[.int .u8 0, .int .u8 0, .int .u8 0, .int .u8 0, .int .u8 0, .int .u8 0, .int .u8 0, .int .u8 0, .int .u8 0, .int .u8 0, .int .u8 0, .int .u8 0, .int .u8 0, .int .u8 0, .int .u8 0, .int .u8 0, .int .u8 0, .int .u8 0, .int .u8 0, .int .u8 0, .int .u8 0, .int .u8 0, .int .u8 0, .int .u8 0, .int .u8 0, .int .u8 0, .int .u8 0, .int .u8 0, .int .u8 0, .int .u8 0, .int .u8 0, .int .u8 0] 31)) := (Below.refl _ _).alloc (Nat.le_refl _) _
  have hall : Below w7.heap.size w7 (W.alloc (.cells #[.int .u8 0, .int .u8 0, .int .u8 0, .int .u8 0, .int .u8 0, .int .u8 0, .int .u8 0, .int .u8 0, .int .u8 0, .int .u8 0, .int .u8 0, .int .u8 0, .int .u8 0, .int .u8 0, .int .u8 0, .int .u8 0, .int .u8 0, .int .u8 0, .int .u8 0, .int .u8 0, .int .u8 0, .int .u8 0, .int .u8 0, .int .u8 0, .int .u8 0, .int .u8 0, .int .u8 0, .int .u8 0, .int .u8 0, .int .u8 0, .int .u8 0, .int .u8 0] 31)) := hbA.trans (hb8.mono (by omega))
  have hrow : ∀ b o, w7.heap[b]? = some o → (W.alloc (.cells #[.int .u8 0, .int .u8 0, .int .u8 0, .int .u8 0, .int .u8 0, .int .u8 0, .int .u8 0, .int .u8 0, .int .u8 0, .int .u8 0, .int .u8 0, .int .u8 0, .int .u8 0, .int .u8 0, .int .u8 0, .int .u8 0, .int .u8 0, .int .u8 0, .int .u8 0, .int .u8 0, .int .u8 0, .int .u8 0, .int .u8 0, .int .u8 0, .int .u8 0, .int .u8 0, .int .u8 0, .int .u8 0, .int .u8 0, .int .u8 0, .int .u8 0, .int .u8 0] 31)).heap[b]? = some o := fun b o hb => by
    have hl : b < w7.heap.size := by
      rcases Nat.lt_or_ge b w7.heap.size with h | h
      · exact h
      · rw [Array.getElem?_eq_none h] at hb; simp at hb
    exact (hall.block b hl).trans hb
  obtain ⟨tf, htf⟩ := hok.fail
  refine ⟨pos, (hb6.trans (hb7.mono hrb)).trans (hall.mono (by omega)), by omega, hkl, hrow _ _ hr7, ⟨tf, hrow _ _ ((hb7.block _ hfb).trans htf)⟩, fun j v hv => (hb8.cell (World.block_lt_of_cell? W _ (hkey j v hv))).trans (hkey j v hv), ?_, ?_, hok.hxs, hok.hL0, hok.hcd, hok.hfa, ?_, ?_⟩
  · intro j v hv
    have e := heap_alloc_new W (.cells #[.int .u8 0, .int .u8 0, .int .u8 0, .int .u8 0, .int .u8 0, .int .u8 0, .int .u8 0, .int .u8 0, .int .u8 0, .int .u8 0, .int .u8 0, .int .u8 0, .int .u8 0, .int .u8 0, .int .u8 0, .int .u8 0, .int .u8 0, .int .u8 0, .int .u8 0, .int .u8 0, .int .u8 0, .int .u8 0, .int .u8 0, .int .u8 0, .int .u8 0, .int .u8 0, .int .u8 0, .int .u8 0, .int .u8 0, .int .u8 0, .int .u8 0, .int .u8 0] 31)
    rw [Nat.zero_add]
    exact cell_of_row e (by have h : z32.toArray[j]? = some v := by rw [List.getElem?_toArray]; exact hv
                            exact h)
  · intro i hi
    have h1 := (hb7.cell hbd).trans (hok.data i hi)
    exact (hall.cell (World.block_lt_of_cell? w7 _ h1)).trans h1
  · intro h
    obtain ⟨h1, h2, wb, x, h3, h4⟩ := hf h
    exact ⟨h1, h2, wb, h3, cell_of_row (hrow _ _ h4) rfl⟩
  · intro h
    obtain ⟨h1, h2, h3⟩ := hnf h
    refine ⟨h1, h2, fun hx => ?_⟩
    obtain ⟨h4, eb, x, h5, h6, h7⟩ := h3 hx
    exact ⟨h4, eb, x, by omega, h6, hrow _ _ h7⟩

theorem bd_start {w wA : World} {cap : Nat} (hown : wA.ownsRow w.heap.size 5 1 (.slice (some ⟨w.heap.size, 0, none⟩) 0 cap) 0 []) (hgrow : w.grownBy wA none) : Bd w wA cap [] :=
  ⟨(Below.refl _ _).grown hgrow (Nat.le_refl _) (by intro k h; cases h), hown, by simp, by simp⟩

set_option maxHeartbeats 8000000 in
theorem law_any (F : Interp) (a : Option Addr) (nn cc : Nat) (f : Nat → Int) (shape el tail ja js ck fa : Int) (junk fl : Bool) (w : World) (ae : Addr) (ev1 : Value) (hF : F.answers w.tape)
    (r1 : 0 ≤ shape ∧ shape < 256) (r2 : 0 ≤ el ∧ el < 256) (r3 : 0 ≤ tail ∧ tail < 256) (r5 : 0 ≤ ja ∧ ja < 256) (r6 : 0 ≤ js ∧ js < 256) (r7 : 0 ≤ ck ∧ ck < 256) (r9 : 0 ≤ fa ∧ fa < 65536)
    (hn : Nums w a nn f) (hnn : nn ≤ 281474976710656) (heof : w.cell? ⟨0, 0, none⟩ = some (.iface 39 (.pointer (some ae)))) (hrow : ∃ cs t, w.heap[ae.block]? = some (.cells cs t (0, 0))) (hE : w.cell? ⟨1, 0, none⟩ = some ev1) :
    Calls Ybaf.prog 3 #[.slice a nn cc, .int .u8 shape, .int .u8 el, .int .u8 tail, .bool junk, .int .u8 ja, .int .u8 js, .int .u8 ck, .bool fl, .int .u16 fa] w fun e w' => e = .returned (.bool true) ∧ Below w.heap.size w w' := by
  have HN : Hid (Nums w a nn f) := hn
  have HF : Hid (F.answers w.tape) := hF
  have HEOF : Hid (w.cell? ⟨0, 0, none⟩ = some (.iface 39 (.pointer (some ae)))) := heof
  have HROW : Hid (∃ cs t, w.heap[ae.block]? = some (.cells cs t (0, 0))) := hrow
  have HE : Hid (w.cell? ⟨1, 0, none⟩ = some ev1) := hE
  clear hn hF heof hrow hE
  obtain ⟨i0, hi, hz0, hz1, hz2⟩ := info_parts info5
  have sh0 : 0 ≤ shape % 6 ∧ shape % 6 < 6 := by omega
  go_enter Ybaf.func3, Ybaf.ntmps3
  go_upto_region 3 with fail
  rename_i K0 kk0
  go_cut [45] from 45 to 45 (fun v wx => v = .int .i64 (shape % 6) ∧ wx = w)
  case first =>
    go_wp2_with fail
    go_meet
    case rel => exact ⟨rfl, rfl⟩
  case rest =>
    obtain ⟨rfl, hwc⟩ := hcut
    subst hwc
    apply kk0
    go_cut [22] from 46 to 54 (fun v wx => ∃ n : Nat, v = .int .i64 n ∧ n < 140 ∧ wx = wc)
    case first =>
      have e1 : 0 ≤ el % 140 ∧ el % 140 < 140 := by omega
      rcases (by omega : shape % 6 = 2 ∨ shape % 6 = 4 ∨ shape % 6 = 5 ∨ (shape % 6 ≠ 2 ∧ shape % 6 ≠ 4 ∧ shape % 6 ≠ 5)) with h | h | h | ⟨h, h', h''⟩
      · go_wp2_with fail
        go_meet
        case rel => exact ⟨63, rfl, by omega, rfl⟩
      · go_wp2_with fail
        go_meet
        case rel => exact ⟨65, rfl, by omega, rfl⟩
      · go_wp2_with fail
        go_meet
        case rel => exact ⟨(el % 140).toNat, by congr 1; omega, by omega, rfl⟩
      · go_wp2_with fail
        go_meet
        case rel => exact ⟨64, rfl, by omega, rfl⟩
    case rest =>
      obtain ⟨n, rfl, hn140, hwc2⟩ := hcut
      subst hwc2
      obtain ⟨w, rfl⟩ : ∃ W, W = wc := ⟨_, rfl⟩
      go_upto_region 11 with (at_make; refine wpList_make_own _ rfl _ _ 22 rfl w.heap.size 5 i0 _ 1 Ybaf.underlying22 hi hz0 hz1 .i64 .i64 ((n : Int) + 2 + 8) (n + 10) rfl rfl (by omega) (by rw [hz2]; omega) (by unfold maxLen; omega) (Nat.le_refl _) ?_; intro wA hownA hgrowA)
      have hbd0 := bd_start hownA hgrowA
      have HBD : Hid (Bd w wA (n + 10) []) := hbd0
      clear hownA hgrowA hbd0
      go_wp2_with fail
      go_loopw [24, 23] (fun i b wr => ∃ (k : Nat) (xs : List Int), k ≤ n ∧ i = .int .i64 k ∧ xs.length = k ∧ b = .slice (some ⟨w.heap.size, 0, none⟩) k (n + 10) ∧ Bd w wr (n + 10) xs) (fun i _ _ => n - lenOf2 i)
      case atStart => exact ⟨0, [], Nat.zero_le _, rfl, rfl, rfl, HBD.out⟩
      case round =>
        obtain ⟨k, xs, hk, rfl, hxl, rfl, hbd⟩ := hrel
        clear HBD
        have HBD : Hid (Bd w wr (n + 10) xs) := hbd
        have hbw := hbd.below
        clear hbd
        by_cases hlt : k < n
        · go_upto_if 68 with fail
          go_cut [25] from 69 to 76 (fun v wx => ∃ x : Int, v = .int .i64 x ∧ (0 ≤ x ∧ x < 2000) ∧ wx = wr)
          case first =>
            by_cases hn0 : 0 < nn
            · obtain ⟨q, hq⟩ : ∃ q, q = k % nn := ⟨_, rfl⟩
              have hqn : q < nn := by rw [hq]; exact Nat.mod_lt _ hn0
              obtain ⟨b, o, rfl, hb, hc, hr1, hr2⟩ := HN.out q hqn
              have hc' : wr.cell? ⟨b, o + q, none⟩ = some (.int .u8 (f q)) := (hbw.cell hb).trans hc
              have hrem : (k : Int) % (nn : Int) = (q : Int) := by rw [hq]; rfl
              have hqi : (q : Int) < nn := by omega
              have hne : ¬ ((nn : Int) = 0) := by omega
              have hpos : (0 : Int) < nn := by omega
              clear hc hq hb
              go_wp2_with fail
              go_meet
              case rel => exact ⟨f q, rfl, by omega, rfl⟩
            · obtain rfl : nn = 0 := by omega
              go_wp2_with fail
              go_meet
              case rel => exact ⟨(k : Int) * 7, rfl, by omega, rfl⟩
          case rest =>
            obtain ⟨x, rfl, hx, hwc⟩ := hcut
            subst hwc
            have hx22 : 0 ≤ x % 22 ∧ x % 22 < 22 := by omega
            obtain ⟨W, rfl⟩ : ∃ W, W = wc := ⟨_, rfl⟩
            go_wp2_with (at_builtin; refine wpList_append_fits _ rfl (.tmp 77) (.tmp 81) 22 rfl w.heap.size 5 i0 1 Ybaf.underlying22 hi hz1 w.heap.size k (n + 10) (xs.map (Value.int .u8)) rfl (own_alloc' HBD.out hxl _) ⟨W.heap.size, 0, none⟩ 1 1 [_] rfl rfl (cell_one_new _ _ _) (by intro u hu; simp at hu; subst hu; rfl) (by omega) ?_; intro w2 hown hgrow; obtain ⟨xs', hxl', hbd'⟩ := bd_app1 HBD.out hxl _ (u8_rng _) hown hgrow (by omega); have HBD' : Hid (Bd w w2 (n + 10) xs') := hbd'; clear hown hgrow hbd')
            go_roundw
            case rel => exact ⟨k + 1, xs', by omega, by go_num, hxl', rfl, HBD'.out⟩
            case measure => simp [lenOf2]; omega
        · obtain rfl : n = k := by omega
          obtain ⟨W1, rfl⟩ : ∃ W, W = wr := ⟨_, rfl⟩
          go_upto_region 18 with fail
          go_cut [84] from 83 to 84 (fun v wx => (∃ bb : Bool, v = .bool bb) ∧ wx = W1)
          case first =>
            go_wp2_with fail
            go_meet
            case rel => exact ⟨⟨_, rfl⟩, rfl⟩
          case rest =>
          obtain ⟨⟨b1, rfl⟩, hwcA⟩ := hcut
          subst hwcA
          obtain ⟨W1, rfl⟩ : ∃ W, W = wc := ⟨_, rfl⟩
          go_upto_if 84 with fail
          go_cut [23] from 85 to 87 (fun v wx => ∃ (L : Nat) (xs : List Int), v = .slice (some ⟨w.heap.size, 0, none⟩) L (n + 10) ∧ xs.length = L ∧ L ≤ n + 1 ∧ Bd w wx (n + 10) xs)
          case first =>
            cases b1
            case true =>
              go_wp2_with (at_builtin; refine wpList_append_fits _ rfl (.tmp 85) (.tmp 86) 22 rfl w.heap.size 5 i0 1 Ybaf.underlying22 hi hz1 w.heap.size n (n + 10) (xs.map (Value.int .u8)) rfl (own_alloc' HBD.out hxl _) ⟨W1.heap.size, 0, none⟩ 1 1 [_] rfl rfl (cell_one_new _ _ _) (by intro u hu; simp at hu; subst hu; rfl) (by omega) ?_; intro w2 hown hgrow; obtain ⟨xs', hxl', hbd'⟩ := bd_app1 HBD.out hxl 10 (by omega) hown hgrow (by omega); have HBD' : Hid (Bd w w2 (n + 10) xs') := hbd'; clear hown hgrow hbd')
              go_meet
              case rel => exact ⟨n + 1, xs', rfl, hxl', by omega, HBD'.out⟩
            case false =>
              go_wp2_with fail
              go_meet
              case rel => exact ⟨n, xs, rfl, hxl, by omega, HBD.out⟩
          case rest =>
            obtain ⟨L1, xs1, rfl, hxl1, hL1, hbd1⟩ := hcut
            obtain ⟨W2, rfl⟩ : ∃ W, W = wc := ⟨_, rfl⟩
            clear HBD hxl hbw
            have HBD : Hid (Bd w W2 (n + 10) xs1) := hbd1
            clear hbd1
            go_upto_region 20 with fail
            go_cut [89] from 88 to 89 (fun v wx => (∃ bb : Bool, v = .bool bb) ∧ wx = W2)
            case first =>
              go_wp2_with fail
              go_meet
              case rel => exact ⟨⟨_, rfl⟩, rfl⟩
            case rest =>
            obtain ⟨⟨b2, rfl⟩, hwcB⟩ := hcut
            subst hwcB
            obtain ⟨W2, rfl⟩ : ∃ W, W = wc := ⟨_, rfl⟩
            go_upto_if 89 with fail
            go_cut [23] from 90 to 92 (fun v wx => ∃ (L : Nat) (xs : List Int), v = .slice (some ⟨w.heap.size, 0, none⟩) L (n + 10) ∧ xs.length = L ∧ L ≤ n + 3 ∧ Bd w wx (n + 10) xs)
            case first =>
              cases b2
              case true =>
                go_wp2_with (at_builtin; refine wpList_append_fits _ rfl (.tmp 90) (.tmp 91) 22 rfl w.heap.size 5 i0 1 Ybaf.underlying22 hi hz1 w.heap.size L1 (n + 10) (xs1.map (Value.int .u8)) rfl (own_alloc' HBD.out hxl1 _) ⟨W2.heap.size, 0, none⟩ 2 2 [.int .u8 10, .int .u8 10] rfl rfl (cells_new _ _ _) (by intro u hu; simp at hu; subst hu; rfl) (by omega) ?_; intro w2 hown hgrow; obtain ⟨xs', hxl', hbd'⟩ := bd_app2 HBD.out hxl1 hown hgrow (by omega); have HBD' : Hid (Bd w w2 (n + 10) xs') := hbd'; clear hown hgrow hbd')
                go_meet
                case rel => exact ⟨L1 + 2, xs', rfl, hxl', by omega, HBD'.out⟩
              case false =>
                go_wp2_with fail
                go_meet
                case rel => exact ⟨L1, xs1, rfl, hxl1, by omega, HBD.out⟩
            case rest =>
              obtain ⟨L2, xs2, rfl, hxl2, hL2, hbd2⟩ := hcut
              obtain ⟨W3, rfl⟩ : ∃ W, W = wc := ⟨_, rfl⟩
              clear HBD hxl1 hL1
              have HBD : Hid (Bd w W3 (n + 10) xs2) := hbd2
              clear hbd2
              go_upto_region 22 with fail
              go_cut [4, 98] from 93 to 98 (fun _ v wx => (∃ bb : Bool, v = .bool bb ∧ (bb = true → 0 < L2)) ∧ wx = W3)
              case first =>
                rcases Bool.eq_false_or_eq_true junk with hj | hj
                · rw [hj]
                  go_wp2_with fail
                  go_meet
                  case rel => exact ⟨⟨_, rfl, by simp⟩, rfl⟩
                · rw [hj]
                  go_wp2_with fail
                  go_meet
                  case rel => exact ⟨⟨_, rfl, by simp⟩, rfl⟩
              case rest =>
                obtain ⟨⟨b3, rfl, hb3⟩, hwc3⟩ := hcut
                subst hwc3
                obtain ⟨W3, rfl⟩ : ∃ W, W = wc := ⟨_, rfl⟩
                go_upto_if 98 with fail
                go_cut [23] from 99 to 109 (fun v wx => ∃ (xs : List Int), v = .slice (some ⟨w.heap.size, 0, none⟩) L2 (n + 10) ∧ xs.length = L2 ∧ Bd w wx (n + 10) xs)
                case first =>
                  cases b3
                  case false =>
                    go_wp2_with fail
                    go_meet
                    case rel => exact ⟨xs2, rfl, hxl2, HBD.out⟩
                  case true =>
                    have hL0 := hb3 rfl
                    obtain ⟨q, hq⟩ : ∃ q, q = (ja % (L2 : Int)).toNat := ⟨_, rfl⟩
                    have hq1 : 0 ≤ ja % (L2 : Int) := Int.emod_nonneg _ (by omega)
                    have hq2 : ja % (L2 : Int) < L2 := Int.emod_lt_of_pos _ (by omega)
                    have hrem : ja % (L2 : Int) = (q : Int) := by omega
                    have hql : q < L2 := by omega
                    have hqi : (q : Int) < L2 := by omega
                    have hne : ¬ ((L2 : Int) = 0) := by omega
                    have hLp : (0 : Int) < L2 := by omega
                    have hj8 : 0 ≤ js % 8 ∧ js % 8 < 8 := by omega
                    have hcq : W3.cell? ⟨w.heap.size, q, none⟩ = some (.int .u8 (xs2.getD q 0)) := HBD.out.cell (by omega)
                    have hfz : W3.frozen? ⟨w.heap.size, q, none⟩ = false := HBD.out.frozen q
                    clear hq hq1 hq2
                    go_wp2_with fail
                    go_region
                    go_wp2_with fail
                    go_meet
                    case rel => exact ⟨xs2.set q _, rfl, by rw [List.length_set, hxl2], (HBD.out.set (i := q) (by omega) (u8_rng _)).drew⟩
                case rest =>
                  obtain ⟨xs3, rfl, hxl3, hbd3⟩ := hcut
                  obtain ⟨W4, rfl⟩ : ∃ W, W = wc := ⟨_, rfl⟩
                  clear HBD hxl2 hb3
                  have HBD : Hid (Bd w W4 (n + 10) xs3) := hbd3
                  clear hbd3
                  have ht0 : 0 ≤ tail % 8 ∧ tail % 8 < 8 := by omega
                  go_wp2_with fail
                  go_loopw [27, 23] (fun i b wr => ∃ (k : Nat) (xs : List Int), (k : Int) ≤ tail % 8 ∧ i = .int .i64 k ∧ xs.length = L2 + k ∧ b = .slice (some ⟨w.heap.size, 0, none⟩) (L2 + k) (n + 10) ∧ Bd w wr (n + 10) xs) (fun i _ _ => 8 - lenOf2 i)
                  case atStart => exact ⟨0, xs3, by omega, rfl, hxl3, rfl, HBD.out⟩
                  case round =>
                    obtain ⟨k, xs, hk, rfl, hxl, rfl, hbd⟩ := hrel
                    clear HBD hxl3
                    have HBD : Hid (Bd w wr (n + 10) xs) := hbd
                    clear hbd
                    by_cases hlt : (k : Int) < tail % 8
                    · obtain ⟨W, rfl⟩ : ∃ W, W = wr := ⟨_, rfl⟩
                      go_wp2_with (at_builtin; refine wpList_append_fits _ rfl (.tmp 118) (.tmp 119) 22 rfl w.heap.size 5 i0 1 Ybaf.underlying22 hi hz1 w.heap.size (L2 + k) (n + 10) (xs.map (Value.int .u8)) rfl (own_alloc' HBD.out hxl _) ⟨W.heap.size, 0, none⟩ 1 1 [_] rfl rfl (cell_one_new _ _ _) (by intro u hu; simp at hu; subst hu; rfl) (by omega) ?_; intro w2 hown hgrow; obtain ⟨xs', hxl', hbd'⟩ := bd_app1 HBD.out hxl 97 (by omega) hown hgrow (by omega); have HBD' : Hid (Bd w w2 (n + 10) xs') := hbd'; clear hown hgrow hbd')
                      go_roundw
                      case rel => exact ⟨k + 1, xs', by omega, by go_num, hxl', rfl, HBD'.out⟩
                      case measure => simp [lenOf2]; omega
                    · obtain ⟨L, hL⟩ : ∃ L, L = L2 + k := ⟨_, rfl⟩
                      rw [← hL] at hxl ⊢
                      have hLn : L ≤ n + 10 := by omega
                      clear hL
                      obtain ⟨W5, rfl⟩ : ∃ W, W = wr := ⟨_, rfl⟩
                      go_upto_region 31 with (go_at_call 4; refine (errorsNew _ _).mono ?_; rintro e w' ⟨rfl, rfl⟩)
                      obtain ⟨R, hR⟩ : ∃ R, R = mkRd w.heap.size L (n + 10) ck fa fl W5.heap.size xs := ⟨_, rfl⟩
                      obtain ⟨W6, hW6⟩ : ∃ W, W = rdWorld W5 w.heap.size L (n + 10) ck fa fl := ⟨_, rfl⟩
                      obtain ⟨hok, hrb⟩ := rd_ok (fl := fl) HBD.out hxl hn140 r7 r9 HEOF.out HROW.out HE.out
                      have hb6 : Below w.heap.size w W6 := by rw [hW6]; exact HBD.out.below.trans ((rd_below W5 w.heap.size L (n + 10) ck fa fl).mono (Nat.le_of_lt HBD.out.size))
                      have hs6 : W6.heap.size = W5.heap.size + 2 := by rw [hW6]; exact rd_size W5 w.heap.size L (n + 10) ck fa fl
                      have hw5 := HBD.out.size
                      rw [← hR, ← hW6] at hok hrb
                      have HKEY : Hid (Calls Ybaf.prog 5 #[.iface 27 (.pointer (some ⟨W5.heap.size + 1, 0, none⟩))] W6 fun e w' => ∃ k ev, e = .returned (.tuple #[keyAgg k, ev]) ∧ KeyPost R (W5.heap.size + 1) W6 k ev w') :=
                        key_any F R W6 (W5.heap.size + 1) ae ev1 (by rw [hb6.tape]; exact HF.out) hok (by omega) hrb ((hb6.cell (World.block_lt_of_cell? w _ HE.out)).trans HE.out)
                      have HOK : Hid (RdOk R W6 (W5.heap.size + 1) ae) := hok
                      have HB6 : Hid (Below w.heap.size w W6) := hb6
                      have HR : Hid (R = mkRd w.heap.size L (n + 10) ck fa fl W5.heap.size xs) := hR
                      clear hok hrb hb6 hR
                      unfold rdWorld at hW6
                      rw [← hW6]
                      clear hW6
                      have HTN : Hid (∀ (W : World) (kk : List UInt8), kk.length = 32 → (W.alloc (.cells #[.int .u8 0, .int .u8 0, .int .u8 0, .int .u8 0, .int .u8 0, .int .u8 0, .int .u8 0, .int .u8 0, .int .u8 0, .int .u8 0, .int .u8 0, .int .u8 0, .int .u8 0, .int .u8 0, .int .u8 0, .int .u8 0, .int .u8 0, .int .u8 0, .int .u8 0, .int .u8 0, .int .u8 0, .int .u8 0, .int .u8 0, .int .u8 0, .int .u8 0, .int .u8 0, .int .u8 0, .int .u8 0, .int .u8 0, .int .u8 0, .int .u8 0, .int .u8 0] 31)).there W.heap.size 0 (kk.map cell).toArray.size) := fun W kk hk => by
                        have e : (kk.map cell).toArray.size = 32 := by simp [hk]
                        rw [e]
                        exact there_new W #[.int .u8 0, .int .u8 0, .int .u8 0, .int .u8 0, .int .u8 0, .int .u8 0, .int .u8 0, .int .u8 0, .int .u8 0, .int .u8 0, .int .u8 0, .int .u8 0, .int .u8 0, .int .u8 0, .int .u8 0, .int .u8 0, .int .u8 0, .int .u8 0, .int .u8 0, .int .u8 0, .int .u8 0, .int .u8 0, .int .u8 0, .int .u8 0, .int .u8 0, .int .u8 0, .int .u8 0, .int .u8 0, .int .u8 0, .int .u8 0, .int .u8 0, .int .u8 0] 31
                      go_upto_region 33 with (first | (go_at_call 5; refine HKEY.out.mono ?_; rintro e w7 ⟨kk, ev, rfl, hkp⟩; have HKP : Hid (KeyPost R (W5.heap.size + 1) W6 kk ev w7) := hkp; clear hkp) | ((with_reducible apply wpList_store_mid (ty := 31) (x := .tmp 30) (y := .tmp 138)); rfl; rfl; rfl; rfl; exact HTN.out _ _ HKP.out.1; exact key_size HKP.out.1; exact key_one _))
                      obtain ⟨pos, htl⟩ := tl_of (w := w) HKP.out HOK.out HB6.out (by omega) (by omega) (by omega)
                      have HTL : Hid _ := htl
                      clear htl
                      rename_i K9 kk9
                      go_cut [33] from 140 to 141 (fun v wx => v = .int .i64 L ∧ wx = ((w7.alloc (.cells #[.int .u8 0, .int .u8 0, .int .u8 0, .int .u8 0, .int .u8 0, .int .u8 0, .int .u8 0, .int .u8 0, .int .u8 0, .int .u8 0, .int .u8 0, .int .u8 0, .int .u8 0, .int .u8 0, .int .u8 0, .int .u8 0, .int .u8 0, .int .u8 0, .int .u8 0, .int .u8 0, .int .u8 0, .int .u8 0, .int .u8 0, .int .u8 0, .int .u8 0, .int .u8 0, .int .u8 0, .int .u8 0, .int .u8 0, .int .u8 0, .int .u8 0, .int .u8 0] 31)).setCells w7.heap.size 0 (kk.map cell)).alloc (.cells #[.int .u8 0, .int .u8 0, .int .u8 0, .int .u8 0, .int .u8 0, .int .u8 0, .int .u8 0, .int .u8 0, .int .u8 0, .int .u8 0, .int .u8 0, .int .u8 0, .int .u8 0, .int .u8 0, .int .u8 0, .int .u8 0, .int .u8 0, .int .u8 0, .int .u8 0, .int .u8 0, .int .u8 0, .int .u8 0, .int .u8 0, .int .u8 0, .int .u8 0, .int .u8 0, .int .u8 0, .int .u8 0, .int .u8 0, .int .u8 0, .int .u8 0, .int .u8 0] 31))
                      case first =>
                        go_wp2_with fail
                        go_meet
                        case rel => exact ⟨rfl, rfl⟩
                      case rest =>
                        obtain ⟨rfl, hwc9⟩ := hcut
                        subst hwc9
                        apply kk9
                        have hRR := HR.out
                        subst hRR
                        exact tail_any _ w _ _ _ _ pos kk ev HTL.out
end Go.Proofs.YbulkebzoFmt
