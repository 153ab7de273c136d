import Derived.Test.YbulkebzoFmtRead
namespace Go.Proofs.YbulkebzoFmt
open Go.ChangeShapes Go.WideShapes Go.ChangeAt Go.RowKit Go.Extern.Stop Go.Stop Go.Extern
set_option maxRecDepth 100000
set_option linter.unusedVariables false
set_option linter.unusedSimpArgs false

theorem Ybaf.methodRead27 (v : Value) (w : World) : (Go.method 217 27 v "Read").run Ybaf.prog w = .ok (35, v) w := by kernel_rfl
theorem Ybaf.methodRead59 (v : Value) (w : World) : (Go.method 217 59 v "Read").run Ybaf.prog w = .ok (37, v) w := by kernel_rfl

theorem St.l0 {R : Rd} {w0 w : World} {rb lb g pos N : Nat} {buf : List Value} (h : St R w0 rb lb g pos N buf w) : w.cell? ⟨lb, 0, none⟩ = some (.iface 27 (.pointer (some ⟨rb, 0, none⟩))) := cell_of_row h.l rfl
theorem St.l1 {R : Rd} {w0 w : World} {rb lb g pos N : Nat} {buf : List Value} (h : St R w0 rb lb g pos N buf w) : w.cell? ⟨lb, 1, none⟩ = some (.int .i64 N) := cell_of_row h.l rfl
theorem St.setN {R : Rd} {w0 w : World} {rb lb g pos N : Nat} {buf : List Value} (h : St R w0 rb lb g pos N buf w) (p' : Nat) : St R w0 rb lb g pos p' buf (w.setCell ⟨lb, 1, none⟩ (.int .i64 p')) := by
  rw [setCell_eq_setRow w lb 1 _ 61 (0, 0) _ h.l]
  have := h.lt1
  have := h.lt2
  exact ⟨h.lt1, h.lt2, below_setRow h.below (by omega) _, (setRow_other w lb rb _ (by omega)).trans h.r, setRow_heap w lb _ _ 61 _ h.l, (setRow_other w lb g _ (by omega)).trans h.b, fun k h1 h2 => (setRow_other w lb k _ (by omega)).trans (h.o k h1 h2)⟩

/-- What one Read of the limited reader leaves. -/
def LP (R : Rd) (w0 : World) (rb lb g : Nat) (ae : Addr) (pos N : Nat) (buf : List Value) (off m : Nat) (ev : Value) (w' : World) : Prop :=
  ∃ buf', St R w0 rb lb g (pos + m) (N - m) buf' w' ∧
    ((R.fl = true ∧ pos = R.fa ∧ 0 < N ∧ m = 0 ∧ ev = .iface 39 (.pointer (some ⟨R.fb, 0, none⟩)) ∧ buf' = buf) ∨
     ((N = 0 ∨ (¬ (R.fl = true ∧ pos = R.fa) ∧ R.L ≤ pos)) ∧ m = 0 ∧ ev = .iface 39 (.pointer (some ae)) ∧ buf' = buf) ∨
     (¬ (R.fl = true ∧ pos = R.fa) ∧ pos < R.L ∧ 0 < m ∧ pos + m ≤ R.L ∧ m ≤ N ∧ (R.fl = true → pos + m ≤ R.fa) ∧ ev = .nilIface ∧ buf' = splice buf off (chunkOf R pos m)))

theorem lp_of_rp {R : Rd} {w0 : World} {rb lb g : Nat} {ae : Addr} {pos N : Nat} {buf : List Value} {off pn m : Nat} {ev : Value} {w' : World} (h : RP R w0 rb lb g ae pos N buf off pn m ev w') (hN : 0 < N) (hp : pn ≤ N) :
    m ≤ N ∧ LP R w0 rb lb g ae pos N buf off m ev (w'.setCell ⟨lb, 1, none⟩ (.int .i64 (N - m : Nat))) := by
  obtain ⟨buf', hs, hc⟩ := h
  refine ⟨?_, buf', hs.setN (N - m), ?_⟩
  · rcases hc with ⟨_, _, h, _⟩ | ⟨_, _, h, _⟩ | ⟨_, _, _, _, h, _⟩ <;> omega
  · rcases hc with ⟨a, b, c, d, e⟩ | ⟨a, b, c, d, e⟩ | ⟨a, b, c, d, e, f, h, i⟩
    · exact .inl ⟨a, b, hN, c, d, e⟩
    · exact .inr (.inl ⟨.inr ⟨a, b⟩, c, d, e⟩)
    · exact .inr (.inr ⟨a, b, c, d, by omega, f, h, i⟩)

theorem rp_l1 {R : Rd} {w0 : World} {rb lb g : Nat} {ae : Addr} {pos N : Nat} {buf : List Value} {off pn m : Nat} {ev : Value} {w' : World} (h : RP R w0 rb lb g ae pos N buf off pn m ev w') : w'.cell? ⟨lb, 1, none⟩ = some (.int .i64 N) := by
  obtain ⟨_, hs, _⟩ := h
  exact hs.l1
theorem rp_fz {R : Rd} {w0 : World} {rb lb g : Nat} {ae : Addr} {pos N : Nat} {buf : List Value} {off pn m : Nat} {ev : Value} {w' : World} (h : RP R w0 rb lb g ae pos N buf off pn m ev w') : w'.frozen? ⟨lb, 1, none⟩ = false := by
  obtain ⟨_, hs, _⟩ := h
  exact frozen_of_row hs.l

theorem lim_zero (R : Rd) (w0 : World) (rb lb g : Nat) (ae : Addr) (pos : Nat) (buf : List Value) (off pn pc : Nat) (w : World) (ok : RdOk R w0 rb ae) (h : St R w0 rb lb g pos 0 buf w) :
    Calls Ybaf.prog 37 #[.pointer (some ⟨lb, 0, none⟩), .slice (some ⟨g, off, none⟩) pn pc] w fun e w' => ∃ (m : Nat) (ev : Value), e = .returned (.tuple #[.int .i64 m, ev]) ∧ LP R w0 rb lb g ae pos 0 buf off m ev w' := by
  have l1 : w.cell? ⟨lb, 1, none⟩ = some (.int .i64 0) := h.l1
  have e0 : w.cell? ⟨0, 0, none⟩ = some (.iface 39 (.pointer (some ae))) := (h.below.cell (by have := ok.hfb; have := ok.h2; show 0 < rb; omega)).trans ok.eof
  have HS : Hid (St R w0 rb lb g pos 0 buf w) := h
  clear h
  go_enter Ybaf.func37, Ybaf.ntmps37
  go_wp2
  go_quiet (fail)
  go_wp2
  go_ret2
  exact ⟨0, _, rfl, buf, HS.out.drewN _, .inr (.inl ⟨.inl rfl, rfl, rfl, rfl⟩)⟩

set_option maxHeartbeats 2000000 in
theorem lim_pos (R : Rd) (w0 : World) (rb lb g : Nat) (ae : Addr) (pos N : Nat) (buf : List Value) (off pn pc : Nat) (w : World) (ok : RdOk R w0 rb ae) (h : St R w0 rb lb g pos N buf w) (hN : 0 < N) (hN1 : N ≤ 66) (hf : R.fl = true → pos ≤ R.fa) (hpn : 1 ≤ pn) (hpc : pn ≤ pc) (hfit : off + pn ≤ buf.length) (hpcb : pc ≤ 1000) :
    Calls Ybaf.prog 37 #[.pointer (some ⟨lb, 0, none⟩), .slice (some ⟨g, off, none⟩) pn pc] w fun e w' => ∃ (m : Nat) (ev : Value), e = .returned (.tuple #[.int .i64 m, ev]) ∧ LP R w0 rb lb g ae pos N buf off m ev w' := by
  have l1 := h.l1
  have l0 := h.l0
  have HS : Hid (St R w0 rb lb g pos N buf w) := h
  have HOK : Hid (RdOk R w0 rb ae) := ok
  have HF : Hid (R.fl = true → pos ≤ R.fa) := hf
  have hN0 : ¬ ((N : Int) ≤ 0) := by omega
  have mR := Ybaf.methodRead27
  clear h ok hf
  have hN00 : ¬ N = 0 := by omega
  have hN01 : ¬ ((N : Int) = 0) := by omega
  have hN02 : ¬ ((pc : Int) = 0) := by omega
  have hx3 : ¬ pc = 0 := by omega
  by_cases hc : (N : Int) < (pn : Int)
  · have hx : (N : Int) ≤ pc := by omega
    have hx2 : N ≤ pc := by omega
    go_enter Ybaf.func37, Ybaf.ntmps37
    go_wp2_with (go_at_call 35; refine (read_any R w0 rb lb g ae pos N buf off N pc _ HOK.out HS.out HF.out (by omega) (by omega) (by omega) (by omega)).mono ?_; rintro e w' ⟨m, ev, rfl, hrp⟩; have HRP : Hid (RP R w0 rb lb g ae pos N buf off N m ev w') := hrp; have k1 := rp_l1 hrp; have k2 := rp_fz hrp; have k3 := (lp_of_rp hrp hN (by omega)).1; clear hrp l1 l0)
    have h9 := (lp_of_rp HRP.out hN (by omega)).2
    have e9 : ((N - m : Nat) : Int) = (N : Int) - m := by omega
    rw [e9] at h9
    go_ret2
    exact ⟨m, ev, rfl, h9⟩
  · go_enter Ybaf.func37, Ybaf.ntmps37
    go_wp2_with (go_at_call 35; refine (read_any R w0 rb lb g ae pos N buf off pn pc _ HOK.out HS.out HF.out (by omega) (by omega) (by omega) (by omega)).mono ?_; rintro e w' ⟨m, ev, rfl, hrp⟩; have HRP : Hid (RP R w0 rb lb g ae pos N buf off pn m ev w') := hrp; have k1 := rp_l1 hrp; have k2 := rp_fz hrp; have k3 := (lp_of_rp hrp hN (by omega)).1; clear hrp l1 l0)
    have h9 := (lp_of_rp HRP.out hN (by omega)).2
    have e9 : ((N - m : Nat) : Int) = (N : Int) - m := by omega
    rw [e9] at h9
    go_ret2
    exact ⟨m, ev, rfl, h9⟩
end Go.Proofs.YbulkebzoFmt
