import Derived.Test.YbulkebzoFmtBase
namespace Go.Proofs.YbulkebzoFmt
open Go.ChangeShapes Go.WideShapes Go.ChangeAt Go.RowKit Go.Extern.Stop Go.Stop Go.Extern
set_option maxRecDepth 100000
set_option linter.unusedVariables false
set_option linter.unusedSimpArgs false

def ReadPost (R : Rd) (w0 : World) (rb lb g : Nat) (ae : Addr) (pos N : Nat) (buf : List Value) (off pn : Nat) (e : Ending) (w' : World) : Prop :=
  (R.fl = true ∧ pos = R.fa ∧ e = .returned (.tuple #[.int .i64 0, .iface 39 (.pointer (some ⟨R.fb, 0, none⟩))]) ∧ St R w0 rb lb g pos N buf w') ∨
  (¬ (R.fl = true ∧ pos = R.fa) ∧ R.L ≤ pos ∧ e = .returned (.tuple #[.int .i64 0, .iface 39 (.pointer (some ae))]) ∧ St R w0 rb lb g pos N buf w') ∨
  (¬ (R.fl = true ∧ pos = R.fa) ∧ pos < R.L ∧ ∃ m : Nat, 0 < m ∧ pos + m ≤ R.L ∧ m ≤ pn ∧ (R.fl = true → pos < R.fa → pos + m ≤ R.fa) ∧ e = .returned (.tuple #[.int .i64 m, .nilIface]) ∧ St R w0 rb lb g (pos + m) N (splice buf off (chunkOf R pos m)) w')

theorem St.c0 {R : Rd} {w0 w : World} {rb lb g pos N : Nat} {buf : List Value} (h : St R w0 rb lb g pos N buf w) : w.cell? ⟨rb, 0, none⟩ = some (.slice (some ⟨R.bd, 0, none⟩) R.L R.cd) := cell_of_row h.r rfl
theorem St.c1 {R : Rd} {w0 w : World} {rb lb g pos N : Nat} {buf : List Value} (h : St R w0 rb lb g pos N buf w) : w.cell? ⟨rb, 1, none⟩ = some (.int .i64 pos) := cell_of_row h.r rfl
theorem St.c2 {R : Rd} {w0 w : World} {rb lb g pos N : Nat} {buf : List Value} (h : St R w0 rb lb g pos N buf w) : w.cell? ⟨rb, 2, none⟩ = some (.int .i64 R.ch) := cell_of_row h.r rfl
theorem St.c3 {R : Rd} {w0 w : World} {rb lb g pos N : Nat} {buf : List Value} (h : St R w0 rb lb g pos N buf w) : w.cell? ⟨rb, 3, none⟩ = some (.bool R.fl) := cell_of_row h.r rfl
theorem St.c4 {R : Rd} {w0 w : World} {rb lb g pos N : Nat} {buf : List Value} (h : St R w0 rb lb g pos N buf w) : w.cell? ⟨rb, 4, none⟩ = some (.int .i64 R.fa) := cell_of_row h.r rfl
theorem St.c5 {R : Rd} {w0 w : World} {rb lb g pos N : Nat} {buf : List Value} (h : St R w0 rb lb g pos N buf w) : w.cell? ⟨rb, 5, none⟩ = some (.iface 39 (.pointer (some ⟨R.fb, 0, none⟩))) := cell_of_row h.r rfl

theorem read_fail (R : Rd) (w0 : World) (rb lb g : Nat) (ae : Addr) (N : Nat) (buf : List Value) (off pn pc : Nat) (w : World) (h : St R w0 rb lb g R.fa N buf w) (hf : R.fl = true) :
    Calls Ybaf.prog 35 #[.pointer (some ⟨rb, 0, none⟩), .slice (some ⟨g, off, none⟩) pn pc] w (ReadPost R w0 rb lb g ae R.fa N buf off pn) := by
  have c0 := h.c0
  have c1 := h.c1
  have c3 := h.c3
  have c4 := h.c4
  have c5 := h.c5
  rw [hf] at c3
  have HS : Hid (St R w0 rb lb g R.fa N buf w) := h
  have HP : Hid (∀ e w', ReadPost R w0 rb lb g ae R.fa N buf off pn e w' → ReadPost R w0 rb lb g ae R.fa N buf off pn e w') := fun _ _ x => x
  clear h
  go_enter Ybaf.func35, Ybaf.ntmps35
  go_wp2
  go_quiet (fail)
  go_wp2
  go_quiet (fail)
  go_wp2
  go_ret2
  exact Or.inl ⟨hf, rfl, rfl, (HS.out.drewN _).drewN _⟩

theorem read_eof (R : Rd) (w0 : World) (rb lb g : Nat) (ae : Addr) (pos N : Nat) (buf : List Value) (off pn pc : Nat) (w : World) (ok : RdOk R w0 rb ae) (h : St R w0 rb lb g pos N buf w) (hf : ¬ (R.fl = true ∧ pos = R.fa)) (hL : R.L ≤ pos) :
    Calls Ybaf.prog 35 #[.pointer (some ⟨rb, 0, none⟩), .slice (some ⟨g, off, none⟩) pn pc] w (ReadPost R w0 rb lb g ae pos N buf off pn) := by
  have c0 := h.c0
  have c1 := h.c1
  have c3 := h.c3
  have c4 := h.c4
  have e0 : w.cell? ⟨0, 0, none⟩ = some (.iface 39 (.pointer (some ae))) := (h.below.cell (by have := ok.hfb; have := ok.h2; show 0 < rb; omega)).trans ok.eof
  have HS : Hid (St R w0 rb lb g pos N buf w) := h
  have HF : Hid (¬ (R.fl = true ∧ pos = R.fa)) := hf
  clear h
  have h1 : (R.L : Int) ≤ pos := by omega
  cases hfl : R.fl
  · rw [hfl] at c3
    go_enter Ybaf.func35, Ybaf.ntmps35
    go_wp2
    go_quiet (fail)
    go_wp2
    go_quiet (fail)
    go_wp2
    go_quiet (fail)
    go_wp2
    go_ret2
    exact Or.inr (Or.inl ⟨HF.out, hL, rfl, ((HS.out.drewN _).drewN _).drewN _⟩)
  · rw [hfl] at c3
    have h2 : ¬ ((pos : Int) = R.fa) := fun x => hf ⟨hfl, by omega⟩
    go_enter Ybaf.func35, Ybaf.ntmps35
    go_wp2
    go_quiet (fail)
    go_wp2
    go_quiet (fail)
    go_wp2
    go_quiet (fail)
    go_wp2
    go_ret2
    exact Or.inr (Or.inl ⟨HF.out, hL, rfl, ((HS.out.drewN _).drewN _).drewN _⟩)


theorem St.copy {R : Rd} {w0 W3 w2 : World} {rb lb g pos N : Nat} {buf buf' : List Value} (h : St R w0 rb lb g pos N buf W3) (hb2 : Below g W3 w2) (hg2 : w2.heap[g]? = some (.cells buf'.toArray 5 (0, 0))) : St R w0 rb lb g pos N buf' w2 :=
  ⟨h.lt1, h.lt2, h.below.trans (hb2.mono (by have := h.lt1; have := h.lt2; omega)), (hb2.block rb (by have := h.lt1; have := h.lt2; omega)).trans h.r, (hb2.block lb h.lt2).trans h.l, hg2, fun k h1 h2 => (hb2.block k (by have := h.lt2; omega)).trans (h.o k h1 h2)⟩
theorem St.setPos {R : Rd} {w0 w : World} {rb lb g pos N : Nat} {buf : List Value} (h : St R w0 rb lb g pos N buf w) (p' : Nat) : St R w0 rb lb g p' N buf (w.setCell ⟨rb, 1, none⟩ (.int .i64 p')) := by
  rw [setCell_eq_setRow w rb 1 _ 29 (0, 0) _ h.r]
  have := h.lt1
  have := h.lt2
  exact ⟨h.lt1, h.lt2, below_setRow h.below (Nat.le_refl _) _, setRow_heap w rb _ _ 29 _ h.r, (setRow_other w rb lb _ (by omega)).trans h.l, (setRow_other w rb g _ (by omega)).trans h.b, fun k h1 h2 => (setRow_other w rb k _ (by omega)).trans (h.o k h1 h2)⟩
theorem chunk_src {R : Rd} {w0 W3 W : World} {rb pos m j : Nat} {v : Value} (hb : Below rb w0 W3) (hbd : R.bd < rb) (hd : ∀ i, i < R.L → w0.cell? ⟨R.bd, i, none⟩ = some (.int .u8 (R.xs i))) (hm : pos + m ≤ R.L) (e : W.heap = W3.heap) (hj : (chunkOf R pos m)[j]? = some v) :
    W.cell? ((⟨R.bd, pos, none⟩ : Addr).add j) = some v := by
  obtain ⟨h1, rfl⟩ := chunkOf_get hj
  have hadd : (⟨R.bd, pos, none⟩ : Addr).add j = ⟨R.bd, pos + j, none⟩ := by unfold Addr.add; split <;> simp_all
  rw [hadd, ← hd (pos + j) (by omega)]
  have e1 : W.cell? ⟨R.bd, pos + j, none⟩ = W3.cell? ⟨R.bd, pos + j, none⟩ := by simp [World.cell?, e]
  rw [e1]
  exact hb.cell hbd
theorem chunk_one (R : Rd) (pos m : Nat) : ∀ v ∈ chunkOf R pos m, v.oneCell' = true := fun v hv => by
  obtain ⟨j, hj⟩ := List.getElem?_of_mem hv
  obtain ⟨_, rfl⟩ := chunkOf_get hj
  rfl
theorem size5 : (Ybaf.prog.info? 5).map (·.size) = some 1 := by kernel_rfl

set_option maxHeartbeats 4000000 in
theorem read_some (R : Rd) (w0 : World) (rb lb g : Nat) (ae : Addr) (pos N : Nat) (buf : List Value) (off pn pc : Nat) (w : World) (ok : RdOk R w0 rb ae) (h : St R w0 rb lb g pos N buf w) (hf : R.fl = true → pos < R.fa) (hL : pos < R.L) (hpn : 1 ≤ pn) (hpc : pn ≤ pc) (hfit : off + pn ≤ buf.length) (hpcb : pc ≤ 1000) :
    Calls Ybaf.prog 35 #[.pointer (some ⟨rb, 0, none⟩), .slice (some ⟨g, off, none⟩) pn pc] w (ReadPost R w0 rb lb g ae pos N buf off pn) := by
  obtain ⟨hbd, hfb, hae, h2, hLk, hL0, hcd, hch0, hch, hfa, hxs, hdata, hfail, heof, heofr⟩ := ok
  have HX : Hid (∀ i, i < R.L → w0.cell? ⟨R.bd, i, none⟩ = some (.int .u8 (R.xs i))) := hdata
  have HS : Hid (St R w0 rb lb g pos N buf w) := h
  clear hxs hdata hfail heof heofr
  have hi1 : ¬ ((R.L : Int) ≤ pos) := by omega
  cases hfl : R.fl
  · have c0 := h.c0
    have c1 := h.c1
    have c2 := h.c2
    have c3 := h.c3
    have c4 := h.c4
    rw [hfl] at c3
    go_enter Ybaf.func35, Ybaf.ntmps35
    go_wp2
    go_quiet (fail)
    go_wp2
    go_quiet (fail)
    go_wp2
    go_quiet (fail)
    go_upto_if 52 with fail
    go_cut [6] (fun v wx => ∃ m : Nat, v = .int .i64 m ∧ (0 < m ∧ pos + m ≤ R.L) ∧ St R w0 rb lb g pos N buf wx)
    case first =>
      by_cases hc : (R.ch : Int) < (R.L : Int) - pos
      · go_wp2_with fail
        go_meet
        case rel => exact ⟨R.ch, rfl, by omega, HS.out.drewN _⟩
      · go_wp2_with fail
        go_meet
        case rel => exact ⟨R.L - pos, by congr 1; omega, by omega, HS.out.drewN _⟩
    case rest =>
      obtain ⟨m1, rfl, hm1, hS1⟩ := hcut
      obtain ⟨W1, rfl⟩ : ∃ W, W = wc := ⟨_, rfl⟩
      clear c0 c1 c2 c3 c4 HS h
      have HS : Hid (St R w0 rb lb g pos N buf W1) := hS1
      have c0 := hS1.c0
      have c1 := hS1.c1
      have c2 := hS1.c2
      have c3 := hS1.c3
      have c4 := hS1.c4
      rw [hfl] at c3
      clear hS1
      go_upto_if 60 with fail
      go_cut [6] (fun v wx => ∃ m : Nat, v = .int .i64 m ∧ (0 < m ∧ pos + m ≤ R.L ∧ m ≤ pn) ∧ St R w0 rb lb g pos N buf wx)
      case first =>
        by_cases hc : (pn : Int) < (m1 : Int)
        · go_wp2_with fail
          go_meet
          case rel => exact ⟨pn, rfl, by omega, HS.out⟩
        · go_wp2_with fail
          go_meet
          case rel => exact ⟨m1, rfl, by omega, HS.out⟩
      case rest =>
        obtain ⟨m2, rfl, hm2, hS2⟩ := hcut
        obtain ⟨W2, rfl⟩ : ∃ W, W = wc := ⟨_, rfl⟩
        clear c0 c1 c2 c3 c4 HS
        have HS : Hid (St R w0 rb lb g pos N buf W2) := hS2
        have c0 := hS2.c0
        have c1 := hS2.c1
        have c2 := hS2.c2
        have c3 := hS2.c3
        have c4 := hS2.c4
        rw [hfl] at c3
        clear hS2
        go_upto_region 10 with fail
        go_quiet (fail)
        obtain ⟨W3, hW3⟩ : ∃ W, W = W2.drewN nq := ⟨_, rfl⟩
        have hS3 : St R w0 rb lb g pos N buf W3 := by rw [hW3]; exact HS.out.drewN _
        rw [← hW3]
        clear hW3 c0 c1 c2 c3 c4 HS
        obtain ⟨m3, hm3e⟩ : ∃ m, m = m2 := ⟨_, rfl⟩
        subst hm3e
        have HS : Hid (St R w0 rb lb g pos N buf W3) := hS3
        have c0 := hS3.c0
        have c1 := hS3.c1
        have c2 := hS3.c2
        have c3 := hS3.c3
        have c4 := hS3.c4
        rw [hfl] at c3
        go_upto_region 12 with fail
        have hq0 : ((m3 : Nat) : Int) ≤ pc := by omega
        have hq1 : ((pos : Int)) < R.cd := by omega
        obtain ⟨Q, hQ⟩ : ∃ Q, Q = pos + m3 := ⟨_, rfl⟩
        have HQ : Hid (Q = pos + m3) := hQ
        have hwr : IntKind.i64.wrap ((pos : Int) + m3) = (Q : Int) := (IntWalk.i64_in _ (by omega)).trans (by omega)
        have hq2 : (Q : Int) ≤ R.cd := by omega
        have hq3 : pos ≤ Q := by omega
        have hq4 : ¬ R.cd = pos := by omega
        have hq5 : m3 ≤ pc := by omega
        have HG : Hid (∀ W : World, W.heap = W3.heap → W.heap[g]? = some (.cells buf.toArray 5 (0, 0))) := fun W e => by rw [e]; exact hS3.b
        have HPOS : Hid (∀ W : World, W.heap = W3.heap → ∀ j v, (chunkOf R pos m3)[j]? = some v → W.cell? ((⟨R.bd, pos, none⟩ : Addr).add j) = some v) := fun W e j v hj => chunk_src hS3.below hbd HX.out (by omega) e hj
        have HLEN : Hid ((chunkOf R pos m3).length = Nat.min (Q - pos) m3) := by show _ = _; rw [chunkOf_length, show Q - pos = m3 by omega]; exact (Nat.min_self _).symm
        have HFIT : Hid (off + (chunkOf R pos m3).length ≤ buf.length) := by show _ ≤ _; rw [chunkOf_length]; omega
        have HONE : Hid (∀ v ∈ chunkOf R pos m3, v.oneCell' = true) := chunk_one R pos m3
        clear hS3 hQ
        go_cut [118] (fun v wx => v = .int .i64 m3 ∧ St R w0 rb lb g pos N (splice buf off (chunkOf R pos m3)) wx)
        case first =>
          go_region_law (refine step_copy_splice rfl (.tmp 102) (.tmp 117) 22 22 rfl 5 Ybaf.underlying22 size5 (some ⟨g, off, none⟩) (some ⟨R.bd, pos, none⟩) m3 pc (Q - pos) (R.cd - pos) (by simp [Act.eval, Act.put]) (by simp [Act.eval, Act.put]) g off buf 5 (HG.out _ rfl) (chunkOf R pos m3) HLEN.out (fun _ => ⟨rfl, _, rfl, HPOS.out _ rfl⟩) HFIT.out HONE.out g W3 ⟨rfl, rfl, rfl, Nat.le_refl _, fun _ _ => rfl⟩ (Nat.le_refl _) ?_; intro w2 hg2 hb2)
          all_goals (go_wp2_with fail; go_meet)
          all_goals exact ⟨by rw [chunkOf_length], HS.out.copy hb2 hg2.out⟩
        case rest =>
          obtain ⟨rfl, hS4⟩ := hcut
          obtain ⟨W4, rfl⟩ : ∃ W, W = wc := ⟨_, rfl⟩
          clear c0 c1 c2 c3 c4
          have c1 := hS4.c1
          have fz : W4.frozen? ⟨rb, 1, none⟩ = false := frozen_of_row hS4.r
          have HS4 : Hid (St R w0 rb lb g pos N (splice buf off (chunkOf R pos m3)) W4) := hS4
          clear hS4
          go_wp2
          go_ret2
          have hS5 := HS4.out.setPos (pos + m3)
          refine Or.inr (Or.inr ⟨?_, hL, m3, by omega, by omega, by omega, ?_, rfl, ?_⟩)
          · rw [hfl]; simp; try omega
          · rw [hfl]; simp; try omega
          · have hQ := HQ.out
            subst hQ
            exact hS5
  · have hfa0 : ¬ ((pos : Int) = R.fa) := by have := hf hfl; omega
    have hfa1 : pos < R.fa := hf hfl
    have c0 := h.c0
    have c1 := h.c1
    have c2 := h.c2
    have c3 := h.c3
    have c4 := h.c4
    rw [hfl] at c3
    go_enter Ybaf.func35, Ybaf.ntmps35
    go_wp2
    go_quiet (fail)
    go_wp2
    go_quiet (fail)
    go_wp2
    go_quiet (fail)
    go_upto_if 52 with fail
    go_cut [6] (fun v wx => ∃ m : Nat, v = .int .i64 m ∧ (0 < m ∧ pos + m ≤ R.L) ∧ St R w0 rb lb g pos N buf wx)
    case first =>
      by_cases hc : (R.ch : Int) < (R.L : Int) - pos
      · go_wp2_with fail
        go_meet
        case rel => exact ⟨R.ch, rfl, by omega, HS.out.drewN _⟩
      · go_wp2_with fail
        go_meet
        case rel => exact ⟨R.L - pos, by congr 1; omega, by omega, HS.out.drewN _⟩
    case rest =>
      obtain ⟨m1, rfl, hm1, hS1⟩ := hcut
      obtain ⟨W1, rfl⟩ : ∃ W, W = wc := ⟨_, rfl⟩
      clear c0 c1 c2 c3 c4 HS h
      have HS : Hid (St R w0 rb lb g pos N buf W1) := hS1
      have c0 := hS1.c0
      have c1 := hS1.c1
      have c2 := hS1.c2
      have c3 := hS1.c3
      have c4 := hS1.c4
      rw [hfl] at c3
      clear hS1
      go_upto_if 60 with fail
      go_cut [6] (fun v wx => ∃ m : Nat, v = .int .i64 m ∧ (0 < m ∧ pos + m ≤ R.L ∧ m ≤ pn) ∧ St R w0 rb lb g pos N buf wx)
      case first =>
        by_cases hc : (pn : Int) < (m1 : Int)
        · go_wp2_with fail
          go_meet
          case rel => exact ⟨pn, rfl, by omega, HS.out⟩
        · go_wp2_with fail
          go_meet
          case rel => exact ⟨m1, rfl, by omega, HS.out⟩
      case rest =>
        obtain ⟨m2, rfl, hm2, hS2⟩ := hcut
        obtain ⟨W2, rfl⟩ : ∃ W, W = wc := ⟨_, rfl⟩
        clear c0 c1 c2 c3 c4 HS
        have HS : Hid (St R w0 rb lb g pos N buf W2) := hS2
        have c0 := hS2.c0
        have c1 := hS2.c1
        have c2 := hS2.c2
        have c3 := hS2.c3
        have c4 := hS2.c4
        rw [hfl] at c3
        clear hS2
        have hx1 : (pos : Int) < R.fa := by omega
        go_upto_region 10 with fail
        go_quiet (fail)
        go_upto_if 90 with fail
        go_cut [6] (fun v wx => ∃ m : Nat, v = .int .i64 m ∧ (0 < m ∧ pos + m ≤ R.L ∧ m ≤ pn ∧ pos + m ≤ R.fa) ∧ St R w0 rb lb g pos N buf wx)
        case first =>
          by_cases hc : (R.fa : Int) - pos < (m2 : Int)
          · go_wp2_with fail
            go_quiet (fail)
            go_wp2_with fail
            go_meet
            case rel => exact ⟨R.fa - pos, by congr 1; omega, by omega, (HS.out.drewN _).drewN _⟩
          · go_wp2_with fail
            go_meet
            case rel => exact ⟨m2, rfl, by omega, HS.out.drewN _⟩
        case rest =>
          obtain ⟨m3, rfl, hm3, hS3⟩ := hcut
          obtain ⟨W3, rfl⟩ : ∃ W, W = wc := ⟨_, rfl⟩
          clear c0 c1 c2 c3 c4 HS
          have HS : Hid (St R w0 rb lb g pos N buf W3) := hS3
          have c0 := hS3.c0
          have c1 := hS3.c1
          have c2 := hS3.c2
          have c3 := hS3.c3
          have c4 := hS3.c4
          rw [hfl] at c3
          go_upto_region 12 with fail
          have hq0 : ((m3 : Nat) : Int) ≤ pc := by omega
          have hq1 : ((pos : Int)) < R.cd := by omega
          obtain ⟨Q, hQ⟩ : ∃ Q, Q = pos + m3 := ⟨_, rfl⟩
          have HQ : Hid (Q = pos + m3) := hQ
          have hwr : IntKind.i64.wrap ((pos : Int) + m3) = (Q : Int) := (IntWalk.i64_in _ (by omega)).trans (by omega)
          have hq2 : (Q : Int) ≤ R.cd := by omega
          have hq3 : pos ≤ Q := by omega
          have hq4 : ¬ R.cd = pos := by omega
          have hq5 : m3 ≤ pc := by omega
          have HG : Hid (∀ W : World, W.heap = W3.heap → W.heap[g]? = some (.cells buf.toArray 5 (0, 0))) := fun W e => by rw [e]; exact hS3.b
          have HPOS : Hid (∀ W : World, W.heap = W3.heap → ∀ j v, (chunkOf R pos m3)[j]? = some v → W.cell? ((⟨R.bd, pos, none⟩ : Addr).add j) = some v) := fun W e j v hj => chunk_src hS3.below hbd HX.out (by omega) e hj
          have HLEN : Hid ((chunkOf R pos m3).length = Nat.min (Q - pos) m3) := by show _ = _; rw [chunkOf_length, show Q - pos = m3 by omega]; exact (Nat.min_self _).symm
          have HFIT : Hid (off + (chunkOf R pos m3).length ≤ buf.length) := by show _ ≤ _; rw [chunkOf_length]; omega
          have HONE : Hid (∀ v ∈ chunkOf R pos m3, v.oneCell' = true) := chunk_one R pos m3
          clear hS3 hQ
          go_cut [118] (fun v wx => v = .int .i64 m3 ∧ St R w0 rb lb g pos N (splice buf off (chunkOf R pos m3)) wx)
          case first =>
            go_region_law (refine step_copy_splice rfl (.tmp 102) (.tmp 117) 22 22 rfl 5 Ybaf.underlying22 size5 (some ⟨g, off, none⟩) (some ⟨R.bd, pos, none⟩) m3 pc (Q - pos) (R.cd - pos) (by simp [Act.eval, Act.put]) (by simp [Act.eval, Act.put]) g off buf 5 (HG.out _ rfl) (chunkOf R pos m3) HLEN.out (fun _ => ⟨rfl, _, rfl, HPOS.out _ rfl⟩) HFIT.out HONE.out g W3 ⟨rfl, rfl, rfl, Nat.le_refl _, fun _ _ => rfl⟩ (Nat.le_refl _) ?_; intro w2 hg2 hb2)
            all_goals (go_wp2_with fail; go_meet)
            all_goals exact ⟨by rw [chunkOf_length], HS.out.copy hb2 hg2.out⟩
          case rest =>
            obtain ⟨rfl, hS4⟩ := hcut
            obtain ⟨W4, rfl⟩ : ∃ W, W = wc := ⟨_, rfl⟩
            clear c0 c1 c2 c3 c4
            have c1 := hS4.c1
            have fz : W4.frozen? ⟨rb, 1, none⟩ = false := frozen_of_row hS4.r
            have HS4 : Hid (St R w0 rb lb g pos N (splice buf off (chunkOf R pos m3)) W4) := hS4
            clear hS4
            go_wp2
            go_ret2
            have hS5 := HS4.out.setPos (pos + m3)
            refine Or.inr (Or.inr ⟨?_, hL, m3, by omega, by omega, by omega, ?_, rfl, ?_⟩)
            · rw [hfl]; simp; try omega
            · rw [hfl]; simp; try omega
            · have hQ := HQ.out
              subst hQ
              exact hS5
/-- What one Read of the law's reader leaves: how many bytes, the error, the state. -/
def RP (R : Rd) (w0 : World) (rb lb g : Nat) (ae : Addr) (pos N : Nat) (buf : List Value) (off pn m : Nat) (ev : Value) (w' : World) : Prop :=
  ∃ buf', St R w0 rb lb g (pos + m) N buf' w' ∧
    ((R.fl = true ∧ pos = R.fa ∧ m = 0 ∧ ev = .iface 39 (.pointer (some ⟨R.fb, 0, none⟩)) ∧ buf' = buf) ∨
     (¬ (R.fl = true ∧ pos = R.fa) ∧ R.L ≤ pos ∧ m = 0 ∧ ev = .iface 39 (.pointer (some ae)) ∧ buf' = buf) ∨
     (¬ (R.fl = true ∧ pos = R.fa) ∧ pos < R.L ∧ 0 < m ∧ pos + m ≤ R.L ∧ m ≤ pn ∧ (R.fl = true → pos + m ≤ R.fa) ∧ ev = .nilIface ∧ buf' = splice buf off (chunkOf R pos m)))

theorem read_any (R : Rd) (w0 : World) (rb lb g : Nat) (ae : Addr) (pos N : Nat) (buf : List Value) (off pn pc : Nat) (w : World) (ok : RdOk R w0 rb ae) (h : St R w0 rb lb g pos N buf w) (hf : R.fl = true → pos ≤ R.fa) (hpn : 1 ≤ pn) (hpc : pn ≤ pc) (hfit : off + pn ≤ buf.length) (hpcb : pc ≤ 1000) :
    Calls Ybaf.prog 35 #[.pointer (some ⟨rb, 0, none⟩), .slice (some ⟨g, off, none⟩) pn pc] w fun e w' => ∃ (m : Nat) (ev : Value), e = .returned (.tuple #[.int .i64 m, ev]) ∧ RP R w0 rb lb g ae pos N buf off pn m ev w' := by
  by_cases h1 : R.fl = true ∧ pos = R.fa
  · obtain ⟨h2, h3⟩ := h1
    subst h3
    refine (read_fail R w0 rb lb g ae N buf off pn pc w h h2).mono ?_
    rintro e w' (⟨_, _, he, hs⟩ | ⟨hn, _⟩ | ⟨hn, _⟩)
    · exact ⟨0, _, he, buf, hs, .inl ⟨h2, rfl, rfl, rfl, rfl⟩⟩
    · exact absurd ⟨h2, rfl⟩ hn
    · exact absurd ⟨h2, rfl⟩ hn
  · by_cases hL : R.L ≤ pos
    · refine (read_eof R w0 rb lb g ae pos N buf off pn pc w ok h h1 hL).mono ?_
      rintro e w' (⟨ha, hb, _⟩ | ⟨_, _, he, hs⟩ | ⟨_, hl, _⟩)
      · exact absurd ⟨ha, hb⟩ h1
      · exact ⟨0, _, he, buf, hs, .inr (.inl ⟨h1, hL, rfl, rfl, rfl⟩)⟩
      · omega
    · refine (read_some R w0 rb lb g ae pos N buf off pn pc w ok h (fun hx => ?_) (by omega) hpn hpc hfit hpcb).mono ?_
      · have := hf hx
        by_cases he : pos = R.fa
        · exact absurd ⟨hx, he⟩ h1
        · omega
      · rintro e w' (⟨ha, hb, _⟩ | ⟨_, hl, _⟩ | ⟨_, _, m, m0, m1, m2, m3, he, hs⟩)
        · exact absurd ⟨ha, hb⟩ h1
        · omega
        · refine ⟨m, _, he, _, hs, .inr (.inr ⟨h1, by omega, m0, m1, m2, fun hx => m3 hx ?_, rfl, rfl⟩)⟩
          have := hf hx
          by_cases he : pos = R.fa
          · exact absurd ⟨hx, he⟩ h1
          · omega
end Go.Proofs.YbulkebzoFmt
