import Derived.Test.YbulkebzoFmtAll
import Derived.Test.YbulkebzoFmtParse
import Derived.Laws.IdiomStrings
namespace Go.Proofs.YbulkebzoFmt
open Go.ChangeShapes Go.WideShapes Go.ChangeAt Go.RowKit Go.Extern.Stop Go.Stop Go.Extern Go.Lib
set_option maxRecDepth 100000
set_option linter.unusedVariables false
set_option linter.unusedSimpArgs false

/-- The first n bytes of the reader's data. -/
def txt (R : Rd) (n : Nat) : List UInt8 := (List.range n).map fun j => UInt8.ofNat (R.xs j).toNat
theorem txt_length (R : Rd) (n : Nat) : (txt R n).length = n := by simp [txt]
theorem txt_get (R : Rd) (n j : Nat) (hj : j < n) : (txt R n)[j]? = some (UInt8.ofNat (R.xs j).toNat) := by
  unfold txt
  rw [List.getElem?_map, List.getElem?_range hj]
  rfl
theorem byte_back {x : Int} (h0 : 0 ≤ x) (h1 : x < 256) : ((UInt8.ofNat x.toNat).toNat : Int) = x := by
  simp
  omega

/-- The key that is well written. -/
def Good (s : List UInt8) : Prop := s.length = 64 ∧ (Hx.decode s).2 = .ok

theorem parse_any (F : Interp) (s : List UInt8) (w : World) (ev1 : Value) (hF : F.answers w.tape) (hs : s.length ≤ 1000) (hE : w.cell? ⟨1, 0, none⟩ = some ev1) :
    Calls Ybaf.prog 12 #[.string ⟨s.toArray⟩] w fun e w' => ∃ k ev, e = .returned (.tuple #[keyAgg k, ev]) ∧ Below w.heap.size w w' ∧ k.length = 32 ∧ (Good s → k = (Hx.decode s).1 ∧ ev = .nilIface) ∧ (¬ Good s → k = List.replicate 32 0 ∧ ErrNew w.heap.size ev w') := by
  have hsz : (⟨s.toArray⟩ : ByteArray).size = s.length := by show s.toArray.size = _; simp
  by_cases h : s.length = 64
  · refine (parse_64 ⟨s.toArray⟩ w ev1 (by rw [hsz, h]) hE).mono ?_
    rintro e w' ⟨hb, k, ev, he, hl, h1, h2⟩
    exact ⟨k, ev, he, hb, hl, fun hg => h1 hg.2, fun hg => h2 (fun hx => hg ⟨h, hx⟩)⟩
  · refine (parse_len F ⟨s.toArray⟩ w hF (by rw [hsz]; exact hs) (by rw [hsz]; exact h)).mono ?_
    rintro e w' ⟨hb, ev, he, hn⟩
    exact ⟨_, ev, he, hb, by simp, fun hg => absurd hg.1 h, fun _ => ⟨rfl, hn⟩⟩

/-- The reader would fail within what is asked of it. -/
def Fails (R : Rd) : Prop := R.fl = true ∧ R.fa < 66 ∧ R.fa ≤ R.L
/-- What ParseKey is handed. -/
def cut (R : Rd) : List UInt8 := Lib.trimSuffix (txt R (min R.L 66)) [10]

def KeyPost (R : Rd) (rb : Nat) (w : World) (k : List UInt8) (ev : Value) (w' : World) : Prop :=
  k.length = 32 ∧ Below rb w w' ∧ ∃ pos, w'.heap[rb]? = some (.cells (rcells R pos) 29 (0, 0)) ∧
    (Fails R → pos = R.fa ∧ k = List.replicate 32 0 ∧ ∃ wb x, ev = .iface 63 (.pointer (some ⟨wb, 0, none⟩)) ∧ w'.heap[wb]? = some (.cells #[.string x, .iface 39 (.pointer (some ⟨R.fb, 0, none⟩))] 102 (0, 0))) ∧
    (¬ Fails R → pos = min R.L 66 ∧ (R.L ≤ 65 ∧ Good (cut R) → k = (Hx.decode (cut R)).1 ∧ ev = .nilIface) ∧ (¬ (R.L ≤ 65 ∧ Good (cut R)) → k = List.replicate 32 0 ∧ ErrNew w.heap.size ev w'))

theorem RdOk.alloc {R : Rd} {w : World} {rb : Nat} {ae : Addr} (h : RdOk R w rb ae) (hrb : rb ≤ w.heap.size) (o : Obj) : RdOk R (w.alloc o) rb ae := by
  have hb : Below w.heap.size w (w.alloc o) := (Below.refl _ _).alloc (Nat.le_refl _) o
  have h1 := h.hbd
  have h2 := h.hfb
  have h3 := h.hae
  have h4 := h.h2
  refine ⟨h.hbd, h.hfb, h.hae, h.h2, h.hL, h.hL0, h.hcd, h.hch0, h.hch, h.hfa, h.hxs, fun i hi => (hb.cell (by show R.bd < w.heap.size; omega)).trans (h.data i hi), ?_, (hb.cell (by show 0 < w.heap.size; omega)).trans h.eof, ?_⟩
  · obtain ⟨t, ht⟩ := h.fail
    exact ⟨t, (hb.block R.fb (by omega)).trans ht⟩
  · obtain ⟨c, t, ht⟩ := h.eofrow
    exact ⟨c, t, (hb.block ae.block (by omega)).trans ht⟩

theorem key_size {k : List UInt8} (h : k.length = 32) : (Ybaf.prog.info? 31).map (·.size) = some (k.map cell).toArray.size := by rw [size31, List.size_toArray, List.length_map, h]
theorem key_one (k : List UInt8) : (k.map cell).toArray.all (fun x => x.oneCell') = true := all_oneCell_toArray (fun v hv => by obtain ⟨b, _, rfl⟩ := List.mem_map.1 hv; rfl)
theorem key_there {w3 w4 : World} {b : Nat} {k : List UInt8} (h : w3.heap[b]? = some (.cells #[.int .u8 0, .int .u8 0, .int .u8 0, .int .u8 0, .int .u8 0, .int .u8 0, .int .u8 0, .int .u8 0, .int .u8 0, .int .u8 0, .int .u8 0, .int .u8 0, .int .u8 0, .int .u8 0, .int .u8 0, .int .u8 0, .int .u8 0, .int .u8 0, .int .u8 0, .int .u8 0, .int .u8 0, .int .u8 0, .int .u8 0, .int .u8 0, .int .u8 0, .int .u8 0, .int .u8 0, .int .u8 0, .int .u8 0, .int .u8 0, .int .u8 0, .int .u8 0] 31 (0, 0))) (hb : Below w3.heap.size w3 w4) (hlt : b < w3.heap.size) (hk : k.length = 32) : w4.there b 0 (k.map cell).toArray.size := by
  have e : (k.map cell).toArray.size = 32 := by simp [hk]
  rw [e]
  exact there_row ((hb.block b hlt).trans h) rfl
theorem key_there' {w3 w4 : World} {b : Nat} {k : List UInt8} (h : w3.heap[b]? = some (.cells #[.int .u8 0, .int .u8 0, .int .u8 0, .int .u8 0, .int .u8 0, .int .u8 0, .int .u8 0, .int .u8 0, .int .u8 0, .int .u8 0, .int .u8 0, .int .u8 0, .int .u8 0, .int .u8 0, .int .u8 0, .int .u8 0, .int .u8 0, .int .u8 0, .int .u8 0, .int .u8 0, .int .u8 0, .int .u8 0, .int .u8 0, .int .u8 0, .int .u8 0, .int .u8 0, .int .u8 0, .int .u8 0, .int .u8 0, .int .u8 0, .int .u8 0, .int .u8 0] 31 (0, 0))) (hb : Below w3.heap.size w3 w4) (hlt : b < w3.heap.size) (hk : k.length = 32) : w4.there b 0 (k.map cell).length := by
  have e : (k.map cell).length = 32 := by simp [hk]
  rw [e]
  exact there_row ((hb.block b hlt).trans h) rfl

set_option maxHeartbeats 2000000 in
theorem key_any (F : Interp) (R : Rd) (w : World) (rb : Nat) (ae : Addr) (ev1 : Value) (hF : F.answers w.tape) (ok : RdOk R w rb ae) (hrb : rb < w.heap.size) (hr : w.heap[rb]? = some (.cells (rcells R 0) 29 (0, 0))) (hE : w.cell? ⟨1, 0, none⟩ = some ev1) :
    Calls Ybaf.prog 5 #[.iface 27 (.pointer (some ⟨rb, 0, none⟩))] w fun e w' => ∃ k ev, e = .returned (.tuple #[keyAgg k, ev]) ∧ KeyPost R rb w k ev w' := by
  have h1rb : 1 < rb := by have := ok.hfb; have := ok.h2; omega
  go_enter Ybaf.func5, Ybaf.ntmps5
  go_upto_region 1 with fail
  obtain ⟨w1, hw1⟩ : ∃ W, W = w.alloc (.cells #[.int .u8 0, .int .u8 0, .int .u8 0, .int .u8 0, .int .u8 0, .int .u8 0, .int .u8 0, .int .u8 0, .int .u8 0, .int .u8 0, .int .u8 0, .int .u8 0, .int .u8 0, .int .u8 0, .int .u8 0, .int .u8 0, .int .u8 0, .int .u8 0, .int .u8 0, .int .u8 0, .int .u8 0, .int .u8 0, .int .u8 0, .int .u8 0, .int .u8 0, .int .u8 0, .int .u8 0, .int .u8 0, .int .u8 0, .int .u8 0, .int .u8 0, .int .u8 0] 31) := ⟨_, rfl⟩
  have hb1 : Below w.heap.size w w1 := by rw [hw1]; exact (Below.refl _ _).alloc (Nat.le_refl _) _
  have hs1 : w1.heap.size = w.heap.size + 1 := by rw [hw1]; simp
  have hk1 : w1.heap[w.heap.size]? = some (.cells #[.int .u8 0, .int .u8 0, .int .u8 0, .int .u8 0, .int .u8 0, .int .u8 0, .int .u8 0, .int .u8 0, .int .u8 0, .int .u8 0, .int .u8 0, .int .u8 0, .int .u8 0, .int .u8 0, .int .u8 0, .int .u8 0, .int .u8 0, .int .u8 0, .int .u8 0, .int .u8 0, .int .u8 0, .int .u8 0, .int .u8 0, .int .u8 0, .int .u8 0, .int .u8 0, .int .u8 0, .int .u8 0, .int .u8 0, .int .u8 0, .int .u8 0, .int .u8 0] 31 (0, 0)) := by rw [hw1]; exact heap_alloc_new _ _
  have ok1 : RdOk R w1 rb ae := by rw [hw1]; exact ok.alloc (by omega) _
  have hr1 : w1.heap[rb]? = some (.cells (rcells R 0) 29 (0, 0)) := (hb1.block rb hrb).trans hr
  have HF : Hid (F.answers w1.tape) := by show F.answers _; rw [hb1.tape]; exact hF
  have HE : Hid (w1.cell? ⟨1, 0, none⟩ = some ev1) := (hb1.cell (by show 1 < w.heap.size; omega)).trans hE
  rw [← hw1]
  have HB1 : Hid (Below w.heap.size w w1) := hb1
  have HK1 : Hid (w1.heap[w.heap.size]? = some (.cells #[.int .u8 0, .int .u8 0, .int .u8 0, .int .u8 0, .int .u8 0, .int .u8 0, .int .u8 0, .int .u8 0, .int .u8 0, .int .u8 0, .int .u8 0, .int .u8 0, .int .u8 0, .int .u8 0, .int .u8 0, .int .u8 0, .int .u8 0, .int .u8 0, .int .u8 0, .int .u8 0, .int .u8 0, .int .u8 0, .int .u8 0, .int .u8 0, .int .u8 0, .int .u8 0, .int .u8 0, .int .u8 0, .int .u8 0, .int .u8 0, .int .u8 0, .int .u8 0] 31 (0, 0))) := hk1
  have HOK : Hid (RdOk R w1 rb ae) := ok1
  have HR1 : Hid (w1.heap[rb]? = some (.cells (rcells R 0) 29 (0, 0))) := hr1
  have HC : Hid (Calls Ybaf.prog 9 #[.iface 59 (.pointer (some ⟨w.heap.size + 1, 0, none⟩))] (w1.alloc (.cells #[.iface 27 (.pointer (some ⟨rb, 0, none⟩)), .int .i64 66] 61)) fun e w' => ∃ (pos : Nat) (ev : Value), e = .returned (.tuple #[.slice (some ⟨w.heap.size + 2, 0, none⟩) pos 512, ev]) ∧ AP R w1 rb (w.heap.size + 1) (w.heap.size + 2) pos ev w') := by
    have hs2 : (w1.alloc (.cells #[.iface 27 (.pointer (some ⟨rb, 0, none⟩)), .int .i64 66] 61)).heap.size = w.heap.size + 2 := by simp; omega
    have hn := heap_alloc_new w1 (.cells #[.iface 27 (.pointer (some ⟨rb, 0, none⟩)), .int .i64 66] 61)
    rw [hs1] at hn
    have h := all_any R w1 rb (w.heap.size + 1) ae (w1.alloc (.cells #[.iface 27 (.pointer (some ⟨rb, 0, none⟩)), .int .i64 66] 61)) ok1 (by omega) (by rw [hs2]; omega) ((Below.refl _ _).alloc (by omega) _) ((heap_alloc_old _ _ (by omega)).trans hr1) hn (fun k h1 h2 => heap_alloc_old _ _ (by omega))
    rw [hs2] at h
    exact h
  clear hw1 hb1 hk1 ok1 hr1 hF ok hr hE
  go_upto_region 3 with (first | (go_at_call 8; refine (Ybaf.hex_EncodedLen 32 (by omega) (by omega) _).mono ?_; rintro e w' ⟨rfl, rfl⟩) | (go_at_call 10; refine (limitReader _ _).mono ?_; rintro e w' ⟨rfl, rfl⟩) | (go_at_call 9; refine HC.out.mono ?_; rintro e w3 ⟨pos, ev, rfl, hap⟩))
  obtain ⟨buf, hal, hcase⟩ := hap
  have hst := hal.st
  have hle := hal.le
  have hleL := hal.leL
  have hb3 : Below rb w w3 := (HB1.out.mono (by omega)).trans hst.below
  have hsz3 : w.heap.size + 2 < w3.heap.size := by
    rcases Nat.lt_or_ge (w.heap.size + 2) w3.heap.size with h | h
    · exact h
    · have := hst.b
      rw [Array.getElem?_eq_none h] at this
      simp at this
  have hk3 : w3.heap[w.heap.size]? = some (.cells #[.int .u8 0, .int .u8 0, .int .u8 0, .int .u8 0, .int .u8 0, .int .u8 0, .int .u8 0, .int .u8 0, .int .u8 0, .int .u8 0, .int .u8 0, .int .u8 0, .int .u8 0, .int .u8 0, .int .u8 0, .int .u8 0, .int .u8 0, .int .u8 0, .int .u8 0, .int .u8 0, .int .u8 0, .int .u8 0, .int .u8 0, .int .u8 0, .int .u8 0, .int .u8 0, .int .u8 0, .int .u8 0, .int .u8 0, .int .u8 0, .int .u8 0, .int .u8 0] 31 (0, 0)) := (hst.o _ hrb (by omega)).trans HK1.out
  have HF3 : Hid (F.answers w3.tape) := by show F.answers _; rw [hst.below.tape]; exact HF.out
  have HR3 : Hid (w3.heap[rb]? = some (.cells (rcells R pos) 29 (0, 0))) := hst.r
  have HB3 : Hid (Below rb w w3) := hb3
  have HK3 : Hid (w3.heap[w.heap.size]? = some (.cells #[.int .u8 0, .int .u8 0, .int .u8 0, .int .u8 0, .int .u8 0, .int .u8 0, .int .u8 0, .int .u8 0, .int .u8 0, .int .u8 0, .int .u8 0, .int .u8 0, .int .u8 0, .int .u8 0, .int .u8 0, .int .u8 0, .int .u8 0, .int .u8 0, .int .u8 0, .int .u8 0, .int .u8 0, .int .u8 0, .int .u8 0, .int .u8 0, .int .u8 0, .int .u8 0, .int .u8 0, .int .u8 0, .int .u8 0, .int .u8 0, .int .u8 0, .int .u8 0] 31 (0, 0))) := hk3
  rcases hcase with ⟨f1, f2, f3, rfl, rfl⟩ | ⟨f1, hpos, rfl⟩
  · have HFL : Hid (Fails R) := ⟨f1, f2, f3⟩
    obtain ⟨tf, htf⟩ := HOK.out.fail
    have hfb := HOK.out.hfb
    have cf : w3.cell? ⟨R.fb, 0, none⟩ = some (.string tf) := cell_of_row ((hst.below.block R.fb hfb).trans htf) rfl
    have HT : Hid (∀ o2 o3, ((w3.alloc o2).alloc o3).drew.there w.heap.size 0 (#[.int .u8 0, .int .u8 0, .int .u8 0, .int .u8 0, .int .u8 0, .int .u8 0, .int .u8 0, .int .u8 0, .int .u8 0, .int .u8 0, .int .u8 0, .int .u8 0, .int .u8 0, .int .u8 0, .int .u8 0, .int .u8 0, .int .u8 0, .int .u8 0, .int .u8 0, .int .u8 0, .int .u8 0, .int .u8 0, .int .u8 0, .int .u8 0, .int .u8 0, .int .u8 0, .int .u8 0, .int .u8 0, .int .u8 0, .int .u8 0, .int .u8 0, .int .u8 0] : Array Value).size) := fun o2 o3 => by
      rw [World.there_drew]
      exact World.there_alloc (World.there_alloc (there_row hk3 rfl) o2) o3
    have hfb3 : R.fb < w3.heap.size := by omega
    clear hst hal hb3 hk3 htf
    go_wp2_with (first | (go_at_call 11; refine (errorf_w F tf _ ⟨R.fb, 0, none⟩ _ (by exact HF3.out) (by go_simp) (by go_simp)).mono ?_; rintro e w' ⟨x, rfl, rfl⟩) | ((with_reducible apply wpList_store_mid (ty := 31) (x := .tmp 2) (y := .tmp 18)); rfl; rfl; rfl; rfl; exact HT.out _ _; exact size31z; exact onez))
    have hbX : ∀ o2 o3, Below w3.heap.size w3 ((w3.alloc o2).alloc o3).drew := fun o2 o3 => (((Below.refl _ _).alloc (Nat.le_refl _) o2).alloc (by simp) o3).drew
    refine bodyPost_ret (results_key rfl _ _ w.heap.size [.int .u8 0, .int .u8 0, .int .u8 0, .int .u8 0, .int .u8 0, .int .u8 0, .int .u8 0, .int .u8 0, .int .u8 0, .int .u8 0, .int .u8 0, .int .u8 0, .int .u8 0, .int .u8 0, .int .u8 0, .int .u8 0, .int .u8 0, .int .u8 0, .int .u8 0, .int .u8 0, .int .u8 0, .int .u8 0, .int .u8 0, .int .u8 0, .int .u8 0, .int .u8 0, .int .u8 0, .int .u8 0, .int .u8 0, .int .u8 0, .int .u8 0, .int .u8 0] rfl (World.rangeAt_setCells_same _ _ _ _ (HT.out _ _)) rfl) rfl ?_
    refine ⟨List.replicate 32 0, _, ?_, by simp, below_setCells (HB3.out.trans ((hbX _ _).mono (by omega))) (by omega) _ _, R.fa, (heap_setCells_other _ _ _ _ _ (by omega)).trans (((hbX _ _).block rb (by omega)).trans HR3.out), fun _ => ⟨rfl, rfl, w3.heap.size + 1, x, rfl, (heap_setCells_other _ _ _ _ _ (by omega)).trans (heap_alloc2_new _ _ _)⟩, fun h => absurd HFL.out h⟩
    show _ = Ending.returned (.tuple #[zeroKey, _])
    rw [zeroKey_eq]
    rfl
  · have HNF : Hid (¬ Fails R) := f1
    by_cases h66 : pos = 66
    · subst h66
      have hL66 : ¬ R.L ≤ 65 := by omega
      have HT : Hid (∀ o2 o3, ((w3.alloc o2).alloc o3).drew.there w.heap.size 0 (#[.int .u8 0, .int .u8 0, .int .u8 0, .int .u8 0, .int .u8 0, .int .u8 0, .int .u8 0, .int .u8 0, .int .u8 0, .int .u8 0, .int .u8 0, .int .u8 0, .int .u8 0, .int .u8 0, .int .u8 0, .int .u8 0, .int .u8 0, .int .u8 0, .int .u8 0, .int .u8 0, .int .u8 0, .int .u8 0, .int .u8 0, .int .u8 0, .int .u8 0, .int .u8 0, .int .u8 0, .int .u8 0, .int .u8 0, .int .u8 0, .int .u8 0, .int .u8 0] : Array Value).size) := fun o2 o3 => by
        rw [World.there_drew]
        exact World.there_alloc (World.there_alloc (there_row hk3 rfl) o2) o3
      have HPOS : Hid (66 = min R.L 66) := hpos
      clear hst hal hb3 hk3 hpos f1
      go_wp2_with (first | (go_at_call 11; refine (errorf_m F 64 64 _ _ (by exact HF3.out) (by go_simp) (by go_simp)).mono ?_; rintro e w' ⟨x, rfl, rfl⟩) | ((with_reducible apply wpList_store_mid (ty := 31) (x := .tmp 2) (y := .tmp 27)); rfl; rfl; rfl; rfl; exact HT.out _ _; exact size31z; exact onez))
      have hbX : ∀ o2 o3, Below w3.heap.size w3 ((w3.alloc o2).alloc o3).drew := fun o2 o3 => (((Below.refl _ _).alloc (Nat.le_refl _) o2).alloc (by simp) o3).drew
      refine bodyPost_ret (results_key rfl _ _ w.heap.size [.int .u8 0, .int .u8 0, .int .u8 0, .int .u8 0, .int .u8 0, .int .u8 0, .int .u8 0, .int .u8 0, .int .u8 0, .int .u8 0, .int .u8 0, .int .u8 0, .int .u8 0, .int .u8 0, .int .u8 0, .int .u8 0, .int .u8 0, .int .u8 0, .int .u8 0, .int .u8 0, .int .u8 0, .int .u8 0, .int .u8 0, .int .u8 0, .int .u8 0, .int .u8 0, .int .u8 0, .int .u8 0, .int .u8 0, .int .u8 0, .int .u8 0, .int .u8 0] rfl (World.rangeAt_setCells_same _ _ _ _ (HT.out _ _)) rfl) rfl ?_
      refine ⟨List.replicate 32 0, _, ?_, by simp, below_setCells (HB3.out.trans ((hbX _ _).mono (by omega))) (by omega) _ _, 66, (heap_setCells_other _ _ _ _ _ (by omega)).trans (((hbX _ _).block rb (by omega)).trans HR3.out), fun h => absurd h HNF.out, fun _ => ⟨HPOS.out, fun h => absurd h.1 hL66, fun _ => ⟨rfl, w3.heap.size + 1, x, by omega, rfl, (heap_setCells_other _ _ _ _ _ (by omega)).trans (heap_alloc2_new _ _ _)⟩⟩⟩
      show _ = Ending.returned (.tuple #[zeroKey, _])
      rw [zeroKey_eq]
      rfl
    · have hL65 : R.L ≤ 65 := by omega
      have hp65 : ¬ ((65 : Int) < pos) := by omega
      have hxs := HOK.out.hxs
      have hconv : (convert 22 9 (.slice (some ⟨w.heap.size + 2, 0, none⟩) pos 512)).run Ybaf.prog w3 = .ok (.string ⟨(txt R pos).toArray⟩) w3 := by
        have h := run_convert_bytes_back (P := Ybaf.prog) w3 22 9 5 ⟨w.heap.size + 2, 0, none⟩ 512 (txt R pos) Ybaf.underlying22 Ybaf.underlying5 Ybaf.underlying9 (fun j hj => by
          rw [txt_length] at hj
          have e1 : ((txt R pos)[j]'(by rw [txt_length]; exact hj)) = UInt8.ofNat (R.xs j).toNat := by
            have := txt_get R pos j hj
            exact (List.getElem?_eq_some_iff.1 this).2
          rw [e1, byte_back (hxs j (by omega)).1 (hxs j (by omega)).2, Addr.add_mid, Nat.zero_add]
          exact cell_of_row hst.b (by rw [List.getElem?_toArray]; exact hal.cells j hj))
        rw [txt_length] at h
        exact h
      have HTS : Hid (Calls Ybaf.prog 13 #[.string ⟨(txt R pos).toArray⟩, .string ⟨#[10]⟩] w3 fun e w' => e = .returned (.string ⟨(cut R).toArray⟩) ∧ w' = w3) := by
        have h := Ybaf.strings_TrimSuffix ⟨(txt R pos).toArray⟩ ⟨#[10]⟩ w3 (by show (txt R pos).toArray.size ≤ _; rw [List.size_toArray, txt_length]; omega)
        unfold cut
        rw [← hpos]
        exact h
      have hcl : (cut R).length ≤ 1000 := by
        have h := Lib.trimSuffix_le (txt R (min R.L 66)) [10]
        unfold cut
        rw [txt_length] at h
        omega
      have hE3 : w3.cell? ⟨1, 0, none⟩ = some ev1 := (hst.below.cell (by show 1 < rb; omega)).trans HE.out
      have HPK := parse_any F (cut R) w3 ev1 HF3.out hcl hE3
      have HPK' : Hid (Calls Ybaf.prog 12 #[.string ⟨(cut R).toArray⟩] w3 fun e w' => ∃ k ev, e = .returned (.tuple #[keyAgg k, ev]) ∧ Below w3.heap.size w3 w' ∧ k.length = 32 ∧ (Good (cut R) → k = (Hx.decode (cut R)).1 ∧ ev = .nilIface) ∧ (¬ Good (cut R) → k = List.replicate 32 0 ∧ ErrNew w3.heap.size ev w')) := HPK
      have HPOS : Hid (pos = min R.L 66) := hpos
      clear hst hal hb3 hk3 hpos f1 hxs hcl hE3 HPK
      go_wp2_with (first | (go_at_call 13; refine HTS.out.mono ?_; rintro e w' ⟨rfl, hww⟩; rw [hww]; clear hww) | (go_at_call 12; refine HPK'.out.mono ?_; rintro e w4 ⟨k, ev, rfl, hb4, hk4, hgood, hbad⟩; have HB4 : Hid (Below w3.heap.size w3 w4) := hb4; have HGOOD : Hid (Good (cut R) → k = (Hx.decode (cut R)).1 ∧ ev = .nilIface) := hgood; have HBAD : Hid (¬ Good (cut R) → k = List.replicate 32 0 ∧ ErrNew w3.heap.size ev w4) := hbad; have HKL : Hid (k.length = 32) := hk4; clear hb4 hk4 hgood hbad) | ((with_reducible apply wpList_store_mid (ty := 31) (x := .tmp 2) (y := .tmp 38)); rfl; rfl; rfl; rfl; exact key_there HK3.out HB4.out (by omega) HKL.out; exact key_size HKL.out; exact key_one k))
      refine bodyPost_ret (results_key rfl _ _ w.heap.size (k.map cell) rfl (World.rangeAt_setCells_same _ _ _ _ (key_there' HK3.out HB4.out (by omega) HKL.out)) (by rw [List.length_map, HKL.out])) rfl ?_
      refine ⟨k, ev, rfl, HKL.out, below_setCells (HB3.out.trans (HB4.out.mono (by omega))) (by omega) _ _, pos, (heap_setCells_other _ _ _ _ _ (by omega)).trans ((HB4.out.block rb (by omega)).trans HR3.out), fun h => absurd h HNF.out, fun _ => ⟨HPOS.out, fun h => HGOOD.out h.2, fun h => ?_⟩⟩
      obtain ⟨h1, eb, x, h2, h3, h4⟩ := HBAD.out (fun hg => h ⟨hL65, hg⟩)
      exact ⟨h1, eb, x, by omega, h3, (heap_setCells_other _ _ _ _ _ (by omega)).trans h4⟩
end Go.Proofs.YbulkebzoFmt
