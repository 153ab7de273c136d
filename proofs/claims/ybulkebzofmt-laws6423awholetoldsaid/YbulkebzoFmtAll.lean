import Derived.Test.YbulkebzoFmtLim
import Derived.OwnWalk
import Derived.Deep.RegionWith
namespace Go.Proofs.YbulkebzoFmt
open Go.ChangeShapes Go.WideShapes Go.ChangeAt Go.RowKit Go.Extern.Stop Go.Stop Go.Extern
set_option maxRecDepth 100000
set_option linter.unusedVariables false
set_option linter.unusedSimpArgs false

theorem St.drew {R : Rd} {w0 w : World} {rb lb g pos N : Nat} {buf : List Value} (h : St R w0 rb lb g pos N buf w) : St R w0 rb lb g pos N buf w.drew :=
  ⟨h.lt1, h.lt2, h.below.drew, h.r, h.l, h.b, h.o⟩

theorem lim_any (R : Rd) (w0 : World) (rb lb g : Nat) (ae : Addr) (pos N : Nat) (buf : List Value) (off pn pc : Nat) (w : World) (ok : RdOk R w0 rb ae) (h : St R w0 rb lb g pos N buf w) (hN1 : N ≤ 66) (hf : R.fl = true → pos ≤ R.fa) (hpn : 1 ≤ pn) (hpc : pn ≤ pc) (hfit : off + pn ≤ buf.length) (hpcb : pc ≤ 1000) :
    Calls Ybaf.prog 37 #[.pointer (some ⟨lb, 0, none⟩), .slice (some ⟨g, off, none⟩) pn pc] w fun e w' => ∃ (m : Nat) (ev : Value), e = .returned (.tuple #[.int .i64 m, ev]) ∧ LP R w0 rb lb g ae pos N buf off m ev w' := by
  by_cases hN : N = 0
  · subst hN
    exact lim_zero R w0 rb lb g ae pos buf off pn pc w ok h
  · exact lim_pos R w0 rb lb g ae pos N buf off pn pc w ok h (by omega) hN1 hf hpn hpc hfit hpcb

/-- The loop's state: pos bytes have been read into the buffer. -/
structure Al (R : Rd) (w0 : World) (rb lb g : Nat) (pos : Nat) (buf : List Value) (w : World) : Prop where
  st : St R w0 rb lb g pos (66 - pos) buf w
  len : buf.length = 512
  le : pos ≤ 66
  leL : pos ≤ R.L
  lef : R.fl = true → pos ≤ R.fa
  cells : ∀ j, j < pos → buf[j]? = some (.int .u8 (R.xs j))

def lenOf : Value → Nat
  | .slice _ n _ => n
  | _ => 0

theorem splice_get {buf : List Value} {R : Rd} {pos m j : Nat} (hl : pos + m ≤ buf.length) (hc : ∀ j, j < pos → buf[j]? = some (.int .u8 (R.xs j))) (hj : j < pos + m) : (splice buf pos (chunkOf R pos m))[j]? = some (.int .u8 (R.xs j)) := by
  unfold splice
  by_cases h1 : j < pos
  · rw [List.getElem?_append_left (by simp; omega), List.getElem?_take_of_lt h1, hc j h1]
  · rw [List.getElem?_append_right (by simp; omega), List.getElem?_append_left (by simp [chunkOf_length]; omega)]
    have e : (List.take pos buf).length = pos := by simp; omega
    rw [e]
    unfold chunkOf
    rw [List.getElem?_map, List.getElem?_range (by omega)]
    simp
    congr 1
    omega

theorem Al.next {R : Rd} {w0 : World} {rb lb g pos m : Nat} {buf : List Value} {w w' : World} (h : Al R w0 rb lb g pos buf w) (hs : St R w0 rb lb g (pos + m) (66 - pos - m) (splice buf pos (chunkOf R pos m)) w') (h1 : pos + m ≤ R.L) (h2 : m ≤ 66 - pos) (h3 : R.fl = true → pos + m ≤ R.fa) : Al R w0 rb lb g (pos + m) (splice buf pos (chunkOf R pos m)) w' := by
  have hle := h.le
  have hlen := h.len
  refine ⟨?_, ?_, by omega, h1, h3, fun j hj => splice_get (by omega) h.cells hj⟩
  · rw [show 66 - (pos + m) = 66 - pos - m by omega]
    exact hs
  · rw [length_splice _ _ _ (by rw [chunkOf_length]; omega)]
    exact hlen

theorem Al.same {R : Rd} {w0 : World} {rb lb g pos : Nat} {buf : List Value} {w w' : World} (h : Al R w0 rb lb g pos buf w) (hs : St R w0 rb lb g pos (66 - pos) buf w') : Al R w0 rb lb g pos buf w' := ⟨hs, h.len, h.le, h.leL, h.lef, h.cells⟩

theorem Ybaf.nilAhead59 (a : Addr) (w : World) : (nilAhead 217 59 (.pointer (some a)) "Read").run Ybaf.prog w = .ok (some false) w := by kernel_rfl
theorem info5 : (Ybaf.prog.info? 5).map (fun i => (i.zero, i.size, i.bytes)) = some (some (.int .u8 0), 1, 1) := by kernel_rfl
theorem info22 : (Ybaf.prog.info? 22).map (fun i => (i.zero, i.size, i.bytes)) = some (some (.slice none 0 0), 1, 24) := by kernel_rfl

/-- What io.ReadAll hands back. -/
def AP (R : Rd) (w0 : World) (rb lb g : Nat) (pos : Nat) (ev : Value) (w' : World) : Prop :=
  ∃ buf, Al R w0 rb lb g pos buf w' ∧
    ((R.fl = true ∧ R.fa < 66 ∧ R.fa ≤ R.L ∧ pos = R.fa ∧ ev = .iface 39 (.pointer (some ⟨R.fb, 0, none⟩))) ∨
     (¬ (R.fl = true ∧ R.fa < 66 ∧ R.fa ≤ R.L) ∧ pos = min R.L 66 ∧ ev = .nilIface))

theorem al_start {R : Rd} {w0 w wA wB : World} {rb lb : Nat} (hlt : rb < lb) (hlw : lb < w.heap.size) (hb : Below rb w0 w)
    (hr : w.heap[rb]? = some (.cells (rcells R 0) 29 (0, 0))) (hl : w.heap[lb]? = some (.cells #[.iface 27 (.pointer (some ⟨rb, 0, none⟩)), .int .i64 66] 61 (0, 0)))
    (hownA : wA.ownsRow w.heap.size 5 1 (.slice (some ⟨w.heap.size, 0, none⟩) 0 512) 0 []) (hgrowA : w.grownBy wA none) (hgrowB : wA.grownBy wB none) (ho : ∀ k, rb < k → k < lb → w.heap[k]? = w0.heap[k]?) : ∃ buf, Al R w0 rb lb w.heap.size 0 buf wB := by
  obtain ⟨_, h⟩ := hownA
  rcases h with ⟨h, _⟩ | ⟨g', cap, cur, hv, hbg, hh, _, _, hsz, _⟩
  · simp at h
  · simp at hv
    obtain ⟨h1, h2⟩ := hv
    subst h1
    subst h2
    have hbA : Below w.heap.size w wA := (Below.refl _ _).grown hgrowA (Nat.le_refl _) (by intro k h; cases h)
    have hsA : w.heap.size < wA.heap.size := by
      rcases Nat.lt_or_ge w.heap.size wA.heap.size with h | h
      · exact h
      · rw [Array.getElem?_eq_none h] at hh; simp at hh
    have hbB : Below wA.heap.size wA wB := (Below.refl _ _).grown hgrowB (Nat.le_refl _) (by intro k h; cases h)
    refine ⟨cur.toList, ⟨hlt, hlw, ?_, ?_, ?_, ?_, fun k h1 h2 => ((hbB.block k (by omega)).trans (hbA.block k (by omega))).trans (ho k h1 h2)⟩, by simpa using hsz, by omega, by omega, fun _ => by omega, fun j hj => by omega⟩
    · exact (hb.trans (hbA.mono (by omega))).trans (hbB.mono (by omega))
    · exact (hbB.block rb (by omega)).trans ((hbA.block rb (by omega)).trans hr)
    · exact (hbB.block lb (by omega)).trans ((hbA.block lb (by omega)).trans hl)
    · rw [Array.toArray_toList]
      exact (hbB.block _ hsA).trans hh

set_option maxHeartbeats 4000000 in
theorem all_any (R : Rd) (w0 : World) (rb lb : Nat) (ae : Addr) (w : World) (ok : RdOk R w0 rb ae) (hlt : rb < lb) (hlw : lb < w.heap.size) (hb : Below rb w0 w)
    (hr : w.heap[rb]? = some (.cells (rcells R 0) 29 (0, 0))) (hl : w.heap[lb]? = some (.cells #[.iface 27 (.pointer (some ⟨rb, 0, none⟩)), .int .i64 66] 61 (0, 0))) (ho : ∀ k, rb < k → k < lb → w.heap[k]? = w0.heap[k]?) :
    Calls Ybaf.prog 9 #[.iface 59 (.pointer (some ⟨lb, 0, none⟩))] w fun e w' => ∃ (pos : Nat) (ev : Value), e = .returned (.tuple #[.slice (some ⟨w.heap.size, 0, none⟩) pos 512, ev]) ∧ AP R w0 rb lb w.heap.size pos ev w' := by
  have HOK : Hid (RdOk R w0 rb ae) := ok
  have HR : Hid (w.heap[rb]? = some (.cells (rcells R 0) 29 (0, 0))) := hr
  have HL : Hid (w.heap[lb]? = some (.cells #[.iface 27 (.pointer (some ⟨rb, 0, none⟩)), .int .i64 66] 61 (0, 0))) := hl
  have HB : Hid (Below rb w0 w) := hb
  have mR := Ybaf.methodRead59
  have nA := Ybaf.nilAhead59
  have HO : Hid (∀ k, rb < k → k < lb → w.heap[k]? = w0.heap[k]?) := ho
  clear ok hr hl hb ho
  obtain ⟨i0, hi, hz0, hz1, hz2⟩ := info_parts info5
  obtain ⟨i1, hj, hy0, hy1, hy2⟩ := info_parts info22
  go_enter Ybaf.func9, Ybaf.ntmps9
  go_upto_region 4 with (first | (at_make; refine wpList_make_own _ rfl _ _ 22 rfl w.heap.size 5 i0 _ 1 Ybaf.underlying22 hi hz0 hz1 .i64 .i64 512 512 rfl rfl rfl (by rw [hz2]; omega) (by unfold maxLen; omega) (Nat.le_refl _) ?_; intro wA hownA hgrowA) | (at_make; refine wpList_make_own _ rfl _ _ 56 rfl wA.heap.size 22 i1 _ 1 Ybaf.underlying56 hj hy0 hy1 .i64 .i64 4 4 rfl rfl rfl (by rw [hy2]; omega) (by unfold maxLen; omega) (Nat.le_refl _) ?_; intro wB hownB hgrowB))
  obtain ⟨buf0, hal0⟩ := al_start hlt hlw HB.out HR.out HL.out hownA hgrowA hgrowB HO.out
  have HAL : Hid (Al R w0 rb lb w.heap.size 0 buf0 wB) := hal0
  clear hownA hgrowA hownB hgrowB hal0 hi hz0 hz1 hz2 hj hy0 hy1 hy2 i0 i1 HB HR HL HO
  go_wp2_with fail
  go_loopw [4, 6] (fun b c wr => ∃ (pos : Nat) (buf : List Value), b = .slice (some ⟨w.heap.size, 0, none⟩) pos 512 ∧ c = .slice (some ⟨wA.heap.size, 0, none⟩) 0 4 ∧ Al R w0 rb lb w.heap.size pos buf wr) (fun b _ _ => 66 - lenOf b)
  case atStart => exact ⟨0, buf0, rfl, rfl, HAL.out⟩
  case round =>
    obtain ⟨pos, buf, rfl, rfl, hal⟩ := hrel
    clear HAL
    have HAL : Hid (Al R w0 rb lb w.heap.size pos buf wr) := hal
    have hle := hal.le
    have hleL := hal.leL
    have hlen := hal.len
    have hq0 : ¬ (512 = pos) := by omega
    have hq1 : (pos : Int) ≤ 512 := by omega
    have hq2 : pos ≤ 512 := by omega
    clear hal
    go_upto_region 5 with fail
    go_cut [8, 9] from 15 to 90 (fun v8 v9 wx => ∃ (m : Nat), v8 = .int .i64 m ∧ LP R w0 rb lb w.heap.size ae pos (66 - pos) buf pos m v9 wx)
    case first =>
      go_region_with (first | (go_at_call 37; refine (lim_any R w0 rb lb w.heap.size ae pos (66 - pos) buf pos (512 - pos) (512 - pos) _ HOK.out HAL.out.st.drew (by omega) HAL.out.lef (by omega) (by omega) (by omega) (by omega)).mono ?_; rintro e w' ⟨m, ev, rfl, hlp⟩))
      all_goals (go_wp2_with fail; go_meet)
      all_goals exact ⟨m, rfl, hlp⟩
    case rest =>
      obtain ⟨m, rfl, hlp⟩ := hcut
      obtain ⟨W, rfl⟩ : ∃ W, W = wc := ⟨_, rfl⟩
      obtain ⟨buf', hs, hcase⟩ := hlp
      have h0rb : 0 < rb := by have := HOK.out.hfb; have := HOK.out.h2; omega
      have e0 : W.cell? ⟨0, 0, none⟩ = some (.iface 39 (.pointer (some ae))) := (hs.below.cell h0rb).trans HOK.out.eof
      have HST : Hid (St R w0 rb lb w.heap.size (pos + m) (66 - pos - m) buf' W) := hs
      obtain ⟨ic, hic, hcmp⟩ := Option.map_eq_some_iff.1 Ybaf.isComp
      obtain ⟨js, hjs, hjz⟩ := Option.map_eq_some_iff.1 Ybaf.isSize
      rcases hcase with ⟨hf1, hf2, hf3, rfl, rfl, rfl⟩ | ⟨hf1, rfl, rfl, rfl⟩ | ⟨hf1, hf2, hf3, hf4, hf5, hf6, rfl, rfl⟩
      · obtain ⟨tf, htf⟩ := HOK.out.fail
        obtain ⟨ce, te, hte⟩ := HOK.out.eofrow
        have hfb := HOK.out.hfb
        have hae := HOK.out.hae
        have heq := run_eql_iface_ptr_other (P := Ybaf.prog) W Ybaf.underlying25 Ybaf.underlying39 hic hcmp hjs (by rw [hjz]; decide) (a := ⟨R.fb, 0, none⟩) (b := ae) (by intro h; rw [← h] at hae; simp at hae) ((hs.below.block R.fb hfb).trans htf) ((hs.below.block ae.block (by omega)).trans hte)
        have HF2 : Hid (pos = R.fa) := hf2
        have HF1 : Hid (R.fl = true) := hf1
        clear hs htf hte hf2 hf1
        go_wp2_with fail
        go_ret2
        exact ⟨pos, _, rfl, buf', HAL.out.same HST.out, .inl ⟨HF1.out, by have := HF2.out; omega, by have := HF2.out; omega, HF2.out, rfl⟩⟩
      · have heq := run_eql_iface_ptr_same (P := Ybaf.prog) W ae Ybaf.underlying25 Ybaf.underlying39 hic hcmp hjs
        clear hs
        have HF1 : Hid (66 - pos = 0 ∨ ¬ (R.fl = true ∧ pos = R.fa) ∧ R.L ≤ pos) := hf1
        clear hf1
        go_wp2_with fail
        go_ret2
        refine ⟨pos, _, rfl, buf', HAL.out.same HST.out, .inr ⟨?_, ?_, rfl⟩⟩
        · rintro ⟨a, b, c⟩
          have h1 := HAL.out.lef a
          rcases HF1.out with h2 | ⟨h2, h3⟩
          · omega
          · exact h2 ⟨a, by omega⟩
        · rcases HF1.out with h2 | ⟨h2, h3⟩ <;> omega
      · have hq5 : (pos : Int) + m ≤ 512 := by omega
        have hq6 : pos + m ≤ 512 := by omega
        clear hs
        go_wp2_with fail
        go_roundw
        case rel => exact ⟨pos + m, _, rfl, rfl, HAL.out.next HST.out hf4 hf5 hf6⟩
        case measure => simp [lenOf]; omega
end Go.Proofs.YbulkebzoFmt
