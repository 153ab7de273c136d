import Derived.Test.YbulkebymHeldLib
namespace Go.Proofs.Ybulkebym.lawS6421CWhole
open Go.ChangeShapes Go.WideShapes Go.ChangeAt Go.RowKit
set_option linter.unusedVariables false

set_option maxRecDepth 100000 in
set_option maxHeartbeats 1000000 in
theorem walk_nil (a1 : Bool) (n : Nat) (hn : n ≤ 255) (w : World) :
    Calls Yba.prog 5 #[.bool false, .bool a1, .int .u8 n] w fun e w' => e = .returned (.bool true) ∧ Below w.heap.size w w' := by
  obtain ⟨nz, hnz, hz2⟩ := Option.map_eq_some_iff.1 node_zero
  simp only [Prod.mk.injEq] at hz2
  obtain ⟨hz56, hz59⟩ := hz2
  go_enter Yba.func5, Yba.ntmps5
  go_upto_region 6 with ((with_reducible apply wpList_built (t := 152) (parts := #[]) (cells := nz)); rfl; rfl; (simpa only [List.map_toArray, List.map_nil] using hnz))
  go_cut [10] (fun v wx => v = .int .i64 n ∧ Setup w wx w.heap.size (.pointer none))
  case first =>
    go_wp2
    go_meet
    case rel =>
      refine ⟨rfl, ⟨?_, ?_, ?_, ?_, ?_, ?_, ⟨.slice none 0 0, ?_⟩, ?_, ?_⟩⟩
      · simp
      · go_simp
      · go_simp
      · go_simp
      · go_simp
      · go_simp
      · go_simp
      · go_simp
      · exact (((Below.refl _ _).alloc (Nat.le_refl _) _).alloc (by simp) _).alloc (by simp; omega) _
  case rest =>
    obtain ⟨rfl, hS⟩ := hcut
    obtain ⟨W0, rfl⟩ : ∃ W, W = wc := ⟨_, rfl⟩
    have HS : Hid (Setup w W0 w.heap.size (.pointer none)) := hS
    have hW3 := hS.size
    clear hS hz56 hz59 hnz
    obtain ⟨i1, hi1, h10, h11, h12⟩ := info_parts info1
    have hmf : ∀ (fn : Fn) (first cap : Array Value) (w : World), (Instr.makeFunc fn first cap).run Yba.prog w = .ok (.func fn first cap) w := fun _ _ _ _ => rfl
    go_wp2_with (at_make; refine wpList_make_own _ rfl _ _ 150 rfl W0.heap.size 1 i1 _ 1 Yba.underlying150 hi1 h10 h11 _ _ _ n rfl rfl rfl (by rw [h12]; omega) (by unfold maxLen; omega) (Nat.le_refl _) ?_; intro wA hown hgrow)
    have HO : Hid (wA.ownsRow W0.heap.size 1 1 (.slice (some ⟨W0.heap.size, 0, none⟩) 0 n) 0 []) := hown
    have hbA : Below W0.heap.size W0 wA := (Below.refl _ _).grown hgrow (Nat.le_refl _) (by intro k h; cases h)
    clear hown hgrow
    go_loopw [11, 12] (fun hv i wr => ∃ (k : Nat) (fs : List Value), k ≤ n ∧ i = .int .i64 k ∧ hv = .slice (some ⟨W0.heap.size, 0, none⟩) k n ∧ wr.ownsRow W0.heap.size 1 1 (.slice (some ⟨W0.heap.size, 0, none⟩) k n) k fs ∧ FsAt wr w.heap.size W0.heap.size k fs ∧ Below W0.heap.size W0 wr)
      (fun _ i _ => n - (intOf i).toNat)
    case atStart => exact ⟨0, [], Nat.zero_le _, rfl, rfl, HO.out, fun j hj => absurd hj (Nat.not_lt_zero _), hbA⟩
    case round =>
      obtain ⟨k, fs, hk, rfl, rfl, hown, hfs, hbr⟩ := hrel
      have hHr : W0.heap.size < wr.heap.size := (hown.lt _ rfl).2
      have hfl : fs.length = k := by have := hown.1; omega
      have HO2 : Hid (wr.ownsRow W0.heap.size 1 1 (.slice (some ⟨W0.heap.size, 0, none⟩) k n) k fs) := hown
      have HFS : Hid (FsAt wr w.heap.size W0.heap.size k fs) := hfs
      have HFL : Hid (fs.length = k) := hfl
      clear hown hfs hfl HO hbA
      by_cases hlt : k < n
      · go_wp2_with ((with_reducible apply wpList_append_fits (s := .tmp 36) (x := .tmp 38) (t := 150) (base := W0.heap.size) (h1 := Yba.underlying150) (h2 := hi1) (h4 := h11) (g := W0.heap.size) (k := k) (cap := n) (xs := fs) (ad := ⟨wr.heap.size + 1, 0, none⟩) (m := 1) (c := 1) (news := [.func (.func 23) #[] #[.pointer (some ⟨w.heap.size, 0, none⟩), .pointer (some ⟨wr.heap.size, 0, none⟩)]])); rfl; rfl; rfl)
        case hown => exact (HO2.out.alloc _).alloc _
        case hx => simp [Act.eval]
        case hn => rfl
        case hc => exact cell_one_new' _ _ _ (by simp)
        case h1c => intro u hu; simp at hu; subst hu; rfl
        case b1 => omega
        intro w2 hown2 hgrow2
        have R1 := HFS.out.push HFL.out hHr hgrow2
        have R2 : Below W0.heap.size W0 w2 := ((hbr.alloc (by omega) _).alloc (by simp; omega) _).grown hgrow2 (by simp; omega) (by intro k h; cases h; exact Nat.le_refl _)
        clear hgrow2
        have HR1 : Hid (w2.ownsRow W0.heap.size 1 1 (.slice (some ⟨W0.heap.size, 0, none⟩) (k + 1) n) (k + 1) (fs ++ [.func (.func 23) #[] #[.pointer (some ⟨w.heap.size, 0, none⟩), .pointer (some ⟨wr.heap.size, 0, none⟩)]])) := hown2
        clear hown2
        go_wp2
        go_roundw
        case rel => exact ⟨k + 1, _, by omega, by go_num, rfl, HR1.out, R1, R2⟩
        case measure => simp [intOf]; omega
      · have hkn : n = k := by omega
        subst hkn
        obtain ⟨WR, rfl⟩ : ∃ W, W = wr := ⟨_, rfl⟩
        have hN2 : w.heap.size + 1 + 1 < W0.heap.size := by omega
        have h56 : WR.cell? ⟨w.heap.size + 1 + 1, 56, none⟩ = some (.pointer none) := (hbr.cell (by exact hN2)).trans HS.out.state
        obtain ⟨v59, h59⟩ : ∃ v, WR.cell? ⟨w.heap.size + 1 + 1, 59, none⟩ = some v := by
          obtain ⟨v, hv⟩ := HS.out.held
          exact ⟨v, (hbr.cell (by exact hN2)).trans hv⟩
        have h59f : WR.frozen? ⟨w.heap.size + 1 + 1, 59, none⟩ = false := (hbr.frozen (by exact hN2)).trans HS.out.heldF
        have hcl : WR.cell? ⟨w.heap.size + 1, 0, none⟩ = some (.int .i64 0) := (hbr.cell (by show w.heap.size + 1 < _; omega)).trans HS.out.calls
        have hclf : WR.frozen? ⟨w.heap.size + 1, 0, none⟩ = false := (hbr.frozen (by show w.heap.size + 1 < _; omega)).trans HS.out.callsF
        have hlg : WR.cell? ⟨w.heap.size, 0, none⟩ = some (.slice none 0 0) := (hbr.cell (by show w.heap.size < _; omega)).trans HS.out.log
        have hlgf : WR.frozen? ⟨w.heap.size, 0, none⟩ = false := (hbr.frozen (by show w.heap.size < _; omega)).trans HS.out.logF
        have hs1 : (WR.setCell ⟨w.heap.size + 1 + 1, 59, none⟩ (.slice (some ⟨W0.heap.size, 0, none⟩) n n)).cell? ⟨w.heap.size + 1 + 1, 56, none⟩ = some (.pointer none) := cell_set_other h56 (by intro e; cases e)
        have hs2 : (WR.setCell ⟨w.heap.size + 1 + 1, 59, none⟩ (.slice (some ⟨W0.heap.size, 0, none⟩) n n)).cell? ⟨w.heap.size + 1, 0, none⟩ = some (.int .i64 0) := cell_set_other hcl (by intro e; have := congrArg Addr.block e; simp only at this; omega)
        have hs3 : (WR.setCell ⟨w.heap.size + 1 + 1, 59, none⟩ (.slice (some ⟨W0.heap.size, 0, none⟩) n n)).frozen? ⟨w.heap.size + 1, 0, none⟩ = false := by simpa using hclf
        have HR : Hid (Run w w.heap.size W0.heap.size n n n WR.heap.size 0 1 ((WR.setCell ⟨w.heap.size + 1 + 1, 59, none⟩ (.slice (some ⟨W0.heap.size, 0, none⟩) n n)).setCell ⟨w.heap.size + 1, 0, none⟩ (.int .i64 1))) := run_start HS.out.below hbr hW3 hHr HO2.out HFS.out h59 hlg hlgf hcl hclf
        go_wp2_with (go_at_call 24; refine (hold_nil (w.heap.size + 1 + 1) (w.heap.size + 1) _ hs1 hs2 hs3).mono ?_; rintro e w' ⟨rfl, rfl⟩)
        go_loopw [15] (fun i wx => ∃ k : Nat, k ≤ n ∧ i = .int .i64 k ∧ Run w w.heap.size W0.heap.size n n n WR.heap.size k 1 wx) (fun i _ => n - (intOf i).toNat)
        case atStart => exact ⟨0, Nat.zero_le _, rfl, HR.out⟩
        case round =>
          obtain ⟨k, hk, rfl, hrun⟩ := hrel
          obtain ⟨v, l1, l2, l3⟩ := hrun.log
          have r1 := hrun.held
          have r2 := hrun.calls
          have hsz := hrun.size
          have HRUN : Hid (Run w w.heap.size W0.heap.size n n n WR.heap.size k 1 wr) := hrun
          clear hrun HR hs1 hs2 hs3 h56 h59 h59f hcl hclf hlg hlgf hmf
          by_cases hlt : k < n
          · obtain ⟨Jb, j1, j2, j3, j4⟩ := HRUN.out.fs k hlt
            rw [Nat.min_eq_left (by omega : k ≤ n)] at l3
            have L3 : Hid (wr.ownsRow WR.heap.size 3 1 v k ((List.range k).map fun (j : Nat) => .int .i64 (j : Int))) := l3
            clear l3
            go_wp2_with (go_at_call 23; refine (log_any WR.heap.size w.heap.size Jb k v _ k wr (by omega) (by omega) (by omega) (by omega) l1 l2 L3.out j4).mono ?_; rintro e w' ⟨rfl, v', x1, x2, x3, x4⟩; have R := HRUN.out.logged hlt x1 x2 x3 x4; clear x1 x2 x3 x4)
            go_roundw
            case rel => exact ⟨k + 1, by omega, by go_num, R⟩
            case measure => simp [intOf]; omega
          · have hkn : n = k := by omega
            subst hkn
            rw [Nat.min_self] at l3
            obtain ⟨la, lc, rfl, hli⟩ := ints_owns l3
            have HLI : Hid (∀ j, j < n → ∃ b, la = some ⟨b, 0, none⟩ ∧ wr.cell? ⟨b, j, none⟩ = some (.int .i64 (j : Int))) := hli
            clear l3 hli
            go_wp2
            go_loop [16] (fun i => ∃ k : Nat, k ≤ n ∧ i = .int .i64 k) (fun i => n - (intOf i).toNat)
            case atStart => exact ⟨0, Nat.zero_le _, rfl⟩
            case round =>
              obtain ⟨k, hk, rfl⟩ := hrel
              by_cases hlt3 : k < n
              · obtain ⟨b, rfl, hb⟩ := HLI.out k hlt3
                go_wp2
                go_round
                case rel => exact ⟨k + 1, by omega, by go_num⟩
                case measure => simp [intOf]; omega
              · go_wp2
                go_ret
                exact ⟨rfl, HRUN.out.below⟩
set_option maxRecDepth 100000 in
set_option maxHeartbeats 1000000 in
theorem walk_synced (n : Nat) (hn : n ≤ 255) (w : World) :
    Calls Yba.prog 5 #[.bool true, .bool false, .int .u8 n] w fun e w' => e = .returned (.bool true) ∧ Below w.heap.size w w' := by
  obtain ⟨nz, hnz, hz2⟩ := Option.map_eq_some_iff.1 node_zero
  simp only [Prod.mk.injEq] at hz2
  obtain ⟨hz56, hz59⟩ := hz2
  go_enter Yba.func5, Yba.ntmps5
  go_upto_region 6 with ((with_reducible apply wpList_built (t := 152) (parts := #[]) (cells := nz)); rfl; rfl; (simpa only [List.map_toArray, List.map_nil] using hnz))
  go_cut [10] (fun v wx => v = .int .i64 n ∧ Setup w wx w.heap.size (.pointer (some ⟨w.heap.size + 1 + 1 + 1, 0, none⟩)) ∧ w.heap.size + 1 + 1 + 1 < wx.heap.size ∧ wx.cell? ⟨w.heap.size + 1 + 1 + 1, 10, none⟩ = some (.bool false))
  case first =>
    go_wp2
    go_meet
    case rel =>
      refine ⟨rfl, ⟨?_, ?_, ?_, ?_, ?_, ?_, ⟨.slice none 0 0, ?_⟩, ?_, ?_⟩, by simp, ?_⟩
      · simp
      · go_simp
      · go_simp
      · go_simp
      · go_simp
      · go_simp
        have h56l := (Array.getElem?_eq_some_iff.1 hz56).1
        simp [h56l]
      · go_simp
      · go_simp
      · exact ((((Below.refl _ _).alloc (Nat.le_refl _) _).alloc (by simp) _).alloc (by simp; omega) _).alloc (by simp; omega) _
      · go_simp
  case rest =>
    obtain ⟨rfl, hS, hSt, hSu⟩ := hcut
    have hneq := neq_self
    obtain ⟨W0, rfl⟩ : ∃ W, W = wc := ⟨_, rfl⟩
    have HS : Hid (Setup w W0 w.heap.size (.pointer (some ⟨w.heap.size + 1 + 1 + 1, 0, none⟩))) := hS
    have hW3 := hS.size
    clear hS hz56 hz59 hnz
    obtain ⟨i1, hi1, h10, h11, h12⟩ := info_parts info1
    have hmf : ∀ (fn : Fn) (first cap : Array Value) (w : World), (Instr.makeFunc fn first cap).run Yba.prog w = .ok (.func fn first cap) w := fun _ _ _ _ => rfl
    go_wp2_with (at_make; refine wpList_make_own _ rfl _ _ 150 rfl W0.heap.size 1 i1 _ 1 Yba.underlying150 hi1 h10 h11 _ _ _ n rfl rfl rfl (by rw [h12]; omega) (by unfold maxLen; omega) (Nat.le_refl _) ?_; intro wA hown hgrow)
    have HO : Hid (wA.ownsRow W0.heap.size 1 1 (.slice (some ⟨W0.heap.size, 0, none⟩) 0 n) 0 []) := hown
    have hbA : Below W0.heap.size W0 wA := (Below.refl _ _).grown hgrow (Nat.le_refl _) (by intro k h; cases h)
    clear hown hgrow
    go_loopw [11, 12] (fun hv i wr => ∃ (k : Nat) (fs : List Value), k ≤ n ∧ i = .int .i64 k ∧ hv = .slice (some ⟨W0.heap.size, 0, none⟩) k n ∧ wr.ownsRow W0.heap.size 1 1 (.slice (some ⟨W0.heap.size, 0, none⟩) k n) k fs ∧ FsAt wr w.heap.size W0.heap.size k fs ∧ Below W0.heap.size W0 wr)
      (fun _ i _ => n - (intOf i).toNat)
    case atStart => exact ⟨0, [], Nat.zero_le _, rfl, rfl, HO.out, fun j hj => absurd hj (Nat.not_lt_zero _), hbA⟩
    case round =>
      obtain ⟨k, fs, hk, rfl, rfl, hown, hfs, hbr⟩ := hrel
      have hHr : W0.heap.size < wr.heap.size := (hown.lt _ rfl).2
      have hfl : fs.length = k := by have := hown.1; omega
      have HO2 : Hid (wr.ownsRow W0.heap.size 1 1 (.slice (some ⟨W0.heap.size, 0, none⟩) k n) k fs) := hown
      have HFS : Hid (FsAt wr w.heap.size W0.heap.size k fs) := hfs
      have HFL : Hid (fs.length = k) := hfl
      clear hown hfs hfl HO hbA
      by_cases hlt : k < n
      · go_wp2_with ((with_reducible apply wpList_append_fits (s := .tmp 36) (x := .tmp 38) (t := 150) (base := W0.heap.size) (h1 := Yba.underlying150) (h2 := hi1) (h4 := h11) (g := W0.heap.size) (k := k) (cap := n) (xs := fs) (ad := ⟨wr.heap.size + 1, 0, none⟩) (m := 1) (c := 1) (news := [.func (.func 23) #[] #[.pointer (some ⟨w.heap.size, 0, none⟩), .pointer (some ⟨wr.heap.size, 0, none⟩)]])); rfl; rfl; rfl)
        case hown => exact (HO2.out.alloc _).alloc _
        case hx => simp [Act.eval]
        case hn => rfl
        case hc => exact cell_one_new' _ _ _ (by simp)
        case h1c => intro u hu; simp at hu; subst hu; rfl
        case b1 => omega
        intro w2 hown2 hgrow2
        have R1 := HFS.out.push HFL.out hHr hgrow2
        have R2 : Below W0.heap.size W0 w2 := ((hbr.alloc (by omega) _).alloc (by simp; omega) _).grown hgrow2 (by simp; omega) (by intro k h; cases h; exact Nat.le_refl _)
        clear hgrow2
        have HR1 : Hid (w2.ownsRow W0.heap.size 1 1 (.slice (some ⟨W0.heap.size, 0, none⟩) (k + 1) n) (k + 1) (fs ++ [.func (.func 23) #[] #[.pointer (some ⟨w.heap.size, 0, none⟩), .pointer (some ⟨wr.heap.size, 0, none⟩)]])) := hown2
        clear hown2
        go_wp2
        go_roundw
        case rel => exact ⟨k + 1, _, by omega, by go_num, rfl, HR1.out, R1, R2⟩
        case measure => simp [intOf]; omega
      · have hkn : n = k := by omega
        subst hkn
        obtain ⟨WR, rfl⟩ : ∃ W, W = wr := ⟨_, rfl⟩
        have hN2 : w.heap.size + 1 + 1 < W0.heap.size := by omega
        have h56 : WR.cell? ⟨w.heap.size + 1 + 1, 56, none⟩ = some (.pointer (some ⟨w.heap.size + 1 + 1 + 1, 0, none⟩)) := (hbr.cell (by exact hN2)).trans HS.out.state
        obtain ⟨v59, h59⟩ : ∃ v, WR.cell? ⟨w.heap.size + 1 + 1, 59, none⟩ = some v := by
          obtain ⟨v, hv⟩ := HS.out.held
          exact ⟨v, (hbr.cell (by exact hN2)).trans hv⟩
        have h59f : WR.frozen? ⟨w.heap.size + 1 + 1, 59, none⟩ = false := (hbr.frozen (by exact hN2)).trans HS.out.heldF
        have hcl : WR.cell? ⟨w.heap.size + 1, 0, none⟩ = some (.int .i64 0) := (hbr.cell (by show w.heap.size + 1 < _; omega)).trans HS.out.calls
        have hclf : WR.frozen? ⟨w.heap.size + 1, 0, none⟩ = false := (hbr.frozen (by show w.heap.size + 1 < _; omega)).trans HS.out.callsF
        have hlg : WR.cell? ⟨w.heap.size, 0, none⟩ = some (.slice none 0 0) := (hbr.cell (by show w.heap.size < _; omega)).trans HS.out.log
        have hlgf : WR.frozen? ⟨w.heap.size, 0, none⟩ = false := (hbr.frozen (by show w.heap.size < _; omega)).trans HS.out.logF
        have hs1 : (WR.setCell ⟨w.heap.size + 1 + 1, 59, none⟩ (.slice (some ⟨W0.heap.size, 0, none⟩) n n)).cell? ⟨w.heap.size + 1 + 1, 56, none⟩ = some (.pointer (some ⟨w.heap.size + 1 + 1 + 1, 0, none⟩)) := cell_set_other h56 (by intro e; cases e)
        have hs2 : (WR.setCell ⟨w.heap.size + 1 + 1, 59, none⟩ (.slice (some ⟨W0.heap.size, 0, none⟩) n n)).cell? ⟨w.heap.size + 1, 0, none⟩ = some (.int .i64 0) := cell_set_other hcl (by intro e; have := congrArg Addr.block e; simp only at this; omega)
        have hs3 : (WR.setCell ⟨w.heap.size + 1 + 1, 59, none⟩ (.slice (some ⟨W0.heap.size, 0, none⟩) n n)).frozen? ⟨w.heap.size + 1, 0, none⟩ = false := by simpa using hclf
        have hu : WR.cell? ⟨w.heap.size + 1 + 1 + 1, 10, none⟩ = some (.bool false) := (hbr.cell (by exact hSt)).trans hSu
        have hs4 : (WR.setCell ⟨w.heap.size + 1 + 1, 59, none⟩ (.slice (some ⟨W0.heap.size, 0, none⟩) n n)).cell? ⟨w.heap.size + 1 + 1 + 1, 10, none⟩ = some (.bool false) := cell_set_other hu (by intro e; have := congrArg Addr.block e; simp only at this; omega)
        have HR : Hid (Run w w.heap.size W0.heap.size n n n WR.heap.size 0 1 ((WR.setCell ⟨w.heap.size + 1 + 1, 59, none⟩ (.slice (some ⟨W0.heap.size, 0, none⟩) n n)).setCell ⟨w.heap.size + 1, 0, none⟩ (.int .i64 1))) := run_start HS.out.below hbr hW3 hHr HO2.out HFS.out h59 hlg hlgf hcl hclf
        go_wp2_with (go_at_call 24; refine (hold_synced (w.heap.size + 1 + 1) (w.heap.size + 1) (w.heap.size + 1 + 1 + 1) _ hs1 hs4 hs2 hs3).mono ?_; rintro e w' ⟨rfl, rfl⟩)
        go_loopw [15] (fun i wx => ∃ k : Nat, k ≤ n ∧ i = .int .i64 k ∧ Run w w.heap.size W0.heap.size n n n WR.heap.size k 1 wx) (fun i _ => n - (intOf i).toNat)
        case atStart => exact ⟨0, Nat.zero_le _, rfl, HR.out⟩
        case round =>
          obtain ⟨k, hk, rfl, hrun⟩ := hrel
          obtain ⟨v, l1, l2, l3⟩ := hrun.log
          have r1 := hrun.held
          have r2 := hrun.calls
          have hsz := hrun.size
          have HRUN : Hid (Run w w.heap.size W0.heap.size n n n WR.heap.size k 1 wr) := hrun
          clear hrun HR hs1 hs2 hs3 h56 h59 h59f hcl hclf hlg hlgf hmf
          by_cases hlt : k < n
          · obtain ⟨Jb, j1, j2, j3, j4⟩ := HRUN.out.fs k hlt
            rw [Nat.min_eq_left (by omega : k ≤ n)] at l3
            have L3 : Hid (wr.ownsRow WR.heap.size 3 1 v k ((List.range k).map fun (j : Nat) => .int .i64 (j : Int))) := l3
            clear l3
            go_wp2_with (go_at_call 23; refine (log_any WR.heap.size w.heap.size Jb k v _ k wr (by omega) (by omega) (by omega) (by omega) l1 l2 L3.out j4).mono ?_; rintro e w' ⟨rfl, v', x1, x2, x3, x4⟩; have R := HRUN.out.logged hlt x1 x2 x3 x4; clear x1 x2 x3 x4)
            go_roundw
            case rel => exact ⟨k + 1, by omega, by go_num, R⟩
            case measure => simp [intOf]; omega
          · have hkn : n = k := by omega
            subst hkn
            rw [Nat.min_self] at l3
            obtain ⟨la, lc, rfl, hli⟩ := ints_owns l3
            have HLI : Hid (∀ j, j < n → ∃ b, la = some ⟨b, 0, none⟩ ∧ wr.cell? ⟨b, j, none⟩ = some (.int .i64 (j : Int))) := hli
            clear l3 hli
            go_wp2
            go_loop [16] (fun i => ∃ k : Nat, k ≤ n ∧ i = .int .i64 k) (fun i => n - (intOf i).toNat)
            case atStart => exact ⟨0, Nat.zero_le _, rfl⟩
            case round =>
              obtain ⟨k, hk, rfl⟩ := hrel
              by_cases hlt3 : k < n
              · obtain ⟨b, rfl, hb⟩ := HLI.out k hlt3
                go_wp2
                go_round
                case rel => exact ⟨k + 1, by omega, by go_num⟩
                case measure => simp [intOf]; omega
              · go_wp2
                go_ret
                exact ⟨rfl, HRUN.out.below⟩
end Go.Proofs.Ybulkebym.lawS6421CWhole
