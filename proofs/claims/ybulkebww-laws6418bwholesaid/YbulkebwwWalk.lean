import Derived.Test.YbulkebwwParts
import Derived.OpenShut
import Derived.ShutString
import Derived.ChangeOld
import Derived.Deep.DeepCutAuto
import Derived.LaidEqlPtr
namespace Go.Proofs.Ybulkebww.lawS6418BWhole
open Go.ChangeShapes Go.WideShapes Go.ChangeAt Go.RowKit
open Go.ChangeMaps (open_string shut_string)
set_option linter.unusedVariables false

theorem below_setCells {B : Nat} {a w : World} (h : Below B a w) {b : Nat} (hb : B ≤ b) : ∀ (vs : List Value) (o : Nat) , Below B a (w.setCells b o vs) := by
  intro vs
  induction vs generalizing w with
  | nil => intro o; exact h
  | cons v r ih => intro o; exact ih (h.setCell (p := ⟨b, o, none⟩) hb v) (o + 1)

/-- The steps as they stand: the kinds and the numbers of the first k. -/
def StepsAt (w : World) (N k : Nat) (g : Nat → Int) : Prop :=
  ∀ j, j < k → w.cell? ⟨N, j * 7, none⟩ = some (.int .i64 (g j)) ∧ w.cell? ⟨N, j * 7 + 2, none⟩ = some (.int .i64 (j : Int))

theorem StepsAt.below {w w' : World} {N k : Nat} {g : Nat → Int} (h : StepsAt w N k g) (hb : Below (N + 1) w w') : StepsAt w' N k g := fun j hj =>
  ⟨(hb.cell (by simp)).trans (h j hj).1, (hb.cell (by simp)).trans (h j hj).2⟩

theorem StepsAt.store {w : World} {N k len : Nat} {g : Nat → Int} (h : StepsAt w N k g) (ht : w.there N 0 (len * 7)) (hk : k < len) (x1 x3 x4 x5 x6 : Value) :
    StepsAt (w.setCells N (k * 7) [.int .i64 (g k), x1, .int .i64 (k : Int), x3, x4, x5, x6]) N (k + 1) g := by
  intro j hj
  have hin : ∀ i, i < [Value.int .i64 (g k), x1, .int .i64 (k : Int), x3, x4, x5, x6].length → (w.cell? ⟨N, k * 7 + i, none⟩).isSome = true := by
    intro i hi
    have := (ht (k * 7 + i) (by simp at hi; omega)).1
    simpa using this
  by_cases e : j = k
  · subst e
    have h0 := World.cell?_setCells_in N [Value.int .i64 (g j), x1, .int .i64 (j : Int), x3, x4, x5, x6] (j * 7) w hin 0 (by simp)
    have h2 := World.cell?_setCells_in N [Value.int .i64 (g j), x1, .int .i64 (j : Int), x3, x4, x5, x6] (j * 7) w hin 2 (by simp)
    exact ⟨by simpa using h0, by simpa using h2⟩
  · have hlt : j < k := by omega
    rw [World.cell?_setCells_out N _ _ w ⟨N, j * 7, none⟩ (fun _ _ => by simp; omega), World.cell?_setCells_out N _ _ w ⟨N, j * 7 + 2, none⟩ (fun _ _ => by simp; omega)]
    exact h j hlt

theorem there_made {w : World} {base g n cap : Nat} {xs : List Value} (h : w.ownsRow base 41 7 (.slice (some ⟨g, 0, none⟩) n cap) n xs) : w.there g 0 (n * 7) := by
  intro j hj
  rw [Nat.zero_add, h.cellAt j hj]
  refine ⟨?_, h.frozenAt j⟩
  rw [List.getElem?_eq_getElem (by rw [h.1]; exact hj)]
  rfl

theorem there_made3 {w : World} {base g n cap : Nat} {xs : List Value} (h : w.ownsRow base 3 1 (.slice (some ⟨g, 0, none⟩) n cap) n xs) : w.there g 0 n := by
  intro j hj
  rw [Nat.zero_add, h.cellAt j (by omega)]
  refine ⟨?_, h.frozenAt j⟩
  rw [List.getElem?_eq_getElem (by rw [h.1]; omega)]
  rfl

theorem intsAt_store {w : World} {N m : Nat} {f : Nat → Int} (h : IntsAt w (some ⟨N, 0, none⟩) m f) {v : Value} (hold : w.cell? ⟨N, m, none⟩ = some v) (x : Int) (hx : x = f m) : IntsAt (w.setCell ⟨N, m, none⟩ (.int .i64 x)) (some ⟨N, 0, none⟩) (m + 1) f := by
  intro j hj
  refine ⟨N, 0, rfl, ?_⟩
  rw [Nat.zero_add]
  by_cases e : j = m
  · subst e; subst hx; exact World.cell?_setCell_same _ _ _ hold
  · obtain ⟨b, o, e2, hc⟩ := h j (by omega)
    cases e2
    rw [World.cell?_setCell_other _ _ _ _ (by intro h; cases h; exact e rfl)]
    simpa using hc

theorem intsAt_nat {w : World} {a : Option Addr} {m k : Nat} {f : Nat → Int} (h : IntsAt w a m (fun j => f j % k)) (hk : (k : Int) ≠ 0) : IntsAt w a m (fun j => (((fun j => (f j % k).toNat) j : Nat) : Int)) := by
  have e : (fun j => (((fun j => (f j % k).toNat) j : Nat) : Int)) = fun j => f j % k := by
    funext j
    exact Int.toNat_of_nonneg (Int.emod_nonneg _ hk)
  rw [e]; exact h

theorem IntsAt.grow {w w' : World} {a : Option Addr} {n : Nat} {f : Nat → Int} (h : IntsAt w a n f) (hb : Below w.heap.size w w') : IntsAt w' a n f := by
  intro j hj
  obtain ⟨b, o, e, hc⟩ := h j hj
  exact ⟨b, o, e, (hb.cell (World.block_lt_of_cell? w _ hc)).trans hc⟩

/-- The run's box. -/
def BoxAt (wD wx : World) (N k : Nat) (pv v : Value) : Prop :=
  ∃ R, v = .pointer (some ⟨R, 0, none⟩) ∧ wx.cell? ⟨R, 0, none⟩ = some (.slice (some ⟨N, 0, none⟩) k k) ∧ wx.cell? ⟨R, 7, none⟩ = some (.int .i64 0) ∧ wx.cell? ⟨R, 9, none⟩ = some pv ∧ wx.cell? ⟨R, 15, none⟩ = some (.pointer none) ∧ wx.cell? ⟨R, 19, none⟩ = some (.bool false) ∧ Below wD.heap.size wD wx

/-- What 'pending' is behind its 'if'. -/
def PendAt (wr wx : World) (N len : Nat) (v : Value) : Prop :=
  ∃ (pa : Option Addr) (np pc : Nat) (ps : Nat → Nat), v = .slice pa np pc ∧ (pa = none → np = 0 ∧ pc = 0) ∧ np ≤ 1048576 ∧ IntsAt wx pa np (fun j => (ps j : Int)) ∧ (∀ j, j < np → ps j < len) ∧ Below wr.heap.size wr wx

/-- What the walk is told of a slice that came in. -/
def RowIn (k : IntKind) (w : World) (a : Option Addr) (len : Nat) (f : Nat → Int) : Prop :=
  ∀ i, i < len → ∃ b o, a = some ⟨b, o, none⟩ ∧ b < w.heap.size ∧ w.cell? ⟨b, o + i, none⟩ = some (.int k (f i)) ∧ (Lit.int k (f i)).wf = true

theorem neq_self (a : Addr) (w : World) : (binOp .neq 56 (.pointer (some a)) (.pointer (some a))).run Yba.prog w = .ok (.bool false) w := by
  obtain ⟨i0, hi, _, hz1, hz2⟩ := info_parts info41
  have h : ∀ d : Nat, (Op.equalIn (d + 1) 56 (.pointer (some a)) (.pointer (some a))).run Yba.prog w = .ok true w := fun d => by
    simp [Op.equalIn, run_underlying Yba.underlying56, sizeOf, typeInfo, hi, run_sameAddr_same]
  simp only [binOp]
  simp [Op.equal, Op.maxDepth, h 9999]

theorem below_drewN {B : Nat} {a w : World} (h : Below B a w) (n : Nat) : Below B a (w.drewN n) := h.trans ⟨rfl, rfl, rfl, Nat.le_refl _, fun _ _ => rfl⟩

set_option maxRecDepth 100000 in
set_option maxHeartbeats 2000000 in
theorem walk_small (a0 : Option Addr) (len0 cap0 : Nat) (f0 : Nat → Int) (a1 : Option Addr) (len1 cap1 : Nat) (f1 : Nat → Int) (w : World) (w0 : RowIn .u8 w a0 len0 f0) (w1 : RowIn .u32 w a1 len1 f1) (hs : len0 + len1 ≤ 1048576) :
    Calls Yba.prog 4 #[.slice a0 len0 cap0, .slice a1 len1 cap1] w fun e w' => e = .returned (.bool true) ∧ Below w.heap.size w w' := by
  obtain ⟨i0, hi, hz0, hz1, hz2⟩ := info_parts info41
  have HW0 : Hid (RowIn .u8 w a0 len0 f0) := w0
  have HW1 : Hid (RowIn .u32 w a1 len1 f1) := w1
  clear w0 w1
  have hneq := neq_self
  go_enter Yba.func4, Yba.ntmps4
  go_wp2_with (at_make; refine wpList_make_full _ rfl _ _ 36 rfl w.heap.size 41 i0 _ 7 Yba.underlying36 hi hz0 hz1 _ _ _ _ len0 rfl rfl rfl rfl (by rw [hz2]; omega) (by unfold maxLen; omega) (Nat.le_refl _) ?_; intro wA hown hgrow)
  have hth0 := there_made hown
  have hN : w.heap.size < wA.heap.size := (hown.lt _ rfl).2
  have hbA : Below w.heap.size w wA := (Below.refl _ _).grown hgrow (Nat.le_refl _) (by intro k h; cases h)
  clear hown hgrow hi hz0 hz1 hz2 i0
  have HT : Hid (wA.there w.heap.size 0 (len0 * 7)) := hth0
  clear hth0
  go_loopw [29] (fun i wr => ∃ (k : Nat), k ≤ len0 ∧ i = .int .i64 k ∧ wr.there w.heap.size 0 (len0 * 7) ∧ StepsAt wr w.heap.size k (fun j => f0 j % 12) ∧ Below w.heap.size w wr ∧ w.heap.size < wr.heap.size)
    (fun i _ => len0 - (intOf i).toNat)
  case atStart => exact ⟨0, Nat.zero_le _, rfl, HT.out, fun j hj => absurd hj (Nat.not_lt_zero _), hbA, hN⟩
  case round =>
    obtain ⟨k, hk, rfl, hth, hst, hbel, hNr⟩ := hrel
    have HTH : Hid (wr.there w.heap.size 0 (len0 * 7)) := hth
    have HST : Hid (StepsAt wr w.heap.size k (fun j => f0 j % 12)) := hst
    clear hth hst HT
    by_cases hlt : k < len0
    · obtain ⟨b, off, rfl, hb, hc0, hwf⟩ := HW0.out k hlt
      have hc : wr.cell? ⟨b, off + k, none⟩ = some (.int .u8 (f0 k)) := (hbel.cell hb).trans hc0
      have hbd := bounds_u8 hwf
      obtain ⟨hbd1, hbd2⟩ := hbd
      clear hc0 hwf
      go_wp2_with ((with_reducible apply wpList_store_mid (ty := 41) (x := .tmp 41) (y := .tmp 40)); rfl; rfl; rfl; rfl)
      case ht =>
        intro j hj
        have := HTH.out (k * 7 + j) (by simp at hj; omega)
        simpa using this
      case hi => kernel_rfl
      case h1 => simp [Value.oneCell']
      go_roundw
      case rel => exact ⟨k + 1, by omega, by go_num, World.there_setCells HTH.out _ _ _, HST.out.store HTH.out hlt _ _ _ _ _, below_setCells hbel (Nat.le_refl _) _ _, Nat.lt_of_lt_of_le hNr (below_setCells (Below.refl 0 wr) (Nat.zero_le _) _ _).size⟩
      case measure => simp [intOf]; omega
    · have hkl : k = len0 := by omega
      subst hkl
      clear hbA hN hlt
      obtain ⟨wq, rfl⟩ : ∃ wq, wq = wr := ⟨_, rfl⟩
      go_upto_if 45 with fail
      go_cut [8] (fun v wx => PendAt wq wx w.heap.size k v)
      case first =>
        by_cases hk0 : 0 < k
        · obtain ⟨i0, hi, hz0, hz1, hz2⟩ := info_parts info3
          go_wp2_with (at_make; refine wpList_make_full _ rfl _ _ 42 rfl wq.heap.size 3 i0 _ 1 Yba.underlying42 hi hz0 hz1 _ _ _ _ len1 rfl rfl rfl rfl (by rw [hz2]; omega) (by unfold maxLen; omega) (Nat.le_refl _) ?_; intro wB hown hgrow)
          have hth0 := there_made3 hown
          have hbB : Below wq.heap.size wq wB := (Below.refl _ _).grown hgrow (Nat.le_refl _) (by intro k h; cases h)
          clear hown hgrow hi hz0 hz1 hz2 i0
          have HT : Hid (wB.there wq.heap.size 0 len1) := hth0
          clear hth0
          go_loopw [51] (fun i wx => ∃ (m : Nat), m ≤ len1 ∧ i = .int .i64 m ∧ wx.there wq.heap.size 0 len1 ∧ IntsAt wx (some ⟨wq.heap.size, 0, none⟩) m (fun j => f1 j % k) ∧ Below wq.heap.size wq wx)
            (fun i _ => len1 - (intOf i).toNat)
          case atStart => exact ⟨0, Nat.zero_le _, rfl, HT.out, fun j hj => absurd hj (Nat.not_lt_zero _), hbB⟩
          case round =>
            obtain ⟨m, hm, rfl, hth, hint, hbx⟩ := hrel
            have HTH : Hid (wr.there wq.heap.size 0 len1) := hth
            have HINT : Hid (IntsAt wr (some ⟨wq.heap.size, 0, none⟩) m (fun j => f1 j % k)) := hint
            clear hth hint HT hbB
            by_cases hlt : m < len1
            · obtain ⟨b, off, rfl, hb, hc0, hwf⟩ := HW1.out m hlt
              have hc : wr.cell? ⟨b, off + m, none⟩ = some (.int .u32 (f1 m)) := ((hbx.cell (Nat.lt_of_lt_of_le hb hbel.size)).trans (hbel.cell hb)).trans hc0
              obtain ⟨hbd1, hbd2⟩ := bounds_u32 hwf
              have hmd := Int.emod_nonneg (f1 m) (b := (k : Int)) (by omega)
              have hmd2 := Int.emod_lt_of_pos (f1 m) (b := (k : Int)) (by omega)
              obtain ⟨⟨vold, hold⟩, hfr⟩ : (∃ v, wr.cell? ⟨wq.heap.size, m, none⟩ = some v) ∧ wr.frozen? ⟨wq.heap.size, m, none⟩ = false := by
                have := HTH.out m hlt
                simp only [Nat.zero_add] at this
                exact ⟨Option.isSome_iff_exists.1 this.1, this.2⟩
              clear hc0 hwf
              go_wp2
              go_roundw
              case rel => exact ⟨m + 1, by omega, by go_num, World.there_setCells (n := len1) HTH.out _ _ [_], intsAt_store HINT.out hold _ rfl, hbx.setCell (Nat.le_refl _) _⟩
              case measure => simp [intOf]; omega
            · have hml : m = len1 := by omega
              subst hml
              go_wp2
              go_meet
              case rel => 
                have hk1 : (k : Int) ≠ 0 := by omega
                exact ⟨_, m, m, fun j => (f1 j % k).toNat, rfl, (fun h => by cases h), by omega, (intsAt_nat HINT.out hk1), (fun j hj => by have h1 := Int.emod_nonneg (f1 j) hk1; have h2 := Int.emod_lt_of_pos (f1 j) (b := (k : Int)) (by omega); show (f1 j % k).toNat < k; omega), hbx⟩
        · have hk0' : k = 0 := by omega
          subst hk0'
          go_wp2
          go_meet
          case rel => exact ⟨none, 0, 0, fun _ => 0, rfl, fun _ => ⟨rfl, rfl⟩, by omega, fun j hj => absurd hj (Nat.not_lt_zero _), fun j hj => absurd hj (Nat.not_lt_zero _), Below.refl _ _⟩
      case rest =>
        obtain ⟨pa, np, pc, ps, rfl, hnil, hnp, hpi, hps, hbx⟩ := hcut
        have hst := HST.out.below (hbx.mono (by omega))
        have hbw : Below w.heap.size w wc := hbel.trans (hbx.mono (by omega))
        have hNc : w.heap.size < wc.heap.size := Nat.lt_of_lt_of_le hNr hbx.size
        have HP : Hid (IntsAt wc pa np (fun j => (ps j : Int))) := hpi
        have HPS : Hid (∀ j, j < np → ps j < k) := hps
        have HS : Hid (StepsAt wc w.heap.size k (fun j => f0 j % 12)) := hst
        have HNIL : Hid (pa = none → np = 0 ∧ pc = 0) := hnil
        clear hst hps hpi hnil HST HTH hbx hbel hNr HW1
        go_upto_region 18 with (go_at_call 7; refine (clone_any pa np pc _ wc hnp HNIL.out HP.out).mono ?_; rintro e wD ⟨ca, cc, rfl, hci, hbD⟩)
        have HC : Hid (IntsAt wD ca np (fun j => (ps j : Int))) := hci
        clear hci
        go_cut [12] (fun v wx => BoxAt wD wx w.heap.size k (.slice pa np pc) v)
        case first =>
          go_wp2
          go_meet
          case rel => exact ⟨_, rfl, by simp, by simp, by simp, by simp, by simp, (Below.refl _ _).alloc (Nat.le_refl _) _⟩
        case rest =>
          obtain ⟨R, rfl, hr0, hr7, hr9, hr15, hr19, hbR⟩ := hcut
          obtain ⟨W, rfl⟩ : ∃ W, W = wc := ⟨_, rfl⟩
          have hsz := hbD.size
          have HWP : Hid (IntsAt W pa np (fun j => (ps j : Int))) := (HP.out.grow hbD).grow hbR
          have HWC : Hid (IntsAt W ca np (fun j => (ps j : Int))) := HC.out.grow hbR
          have HWS : Hid (StepsAt W w.heap.size k (fun j => f0 j % 12)) := (HS.out.below (hbD.mono (by omega))).below (hbR.mono (by omega))
          have hbW : Below w.heap.size w W := hbw.trans ((hbD.mono (by omega)).trans (hbR.mono (by omega)))
          clear HP HC HS hbD hbR hbw hsz hNc
          go_wp2_with (go_at_call 8; refine (fq_any R w.heap.size k np pc pa (fun j => f0 j % 12) ps W (by omega) hnp HWP.out HPS.out (fun i hi => (HWS.out i hi).1) hr0 hr9).mono ?_; rintro e w' ⟨p, rfl, hfq, hw⟩; replace hw := hw.symm; subst hw)
          have HFQ : Hid (FQ w.heap.size np (fun j => f0 j % 12) ps p) := hfq
          clear hfq
          go_loop [14, 15] (fun t i => ∃ m : Nat, m ≤ np ∧ i = .int .i64 m ∧ t = .pointer none ∧ ∀ i, i < m → f0 (ps i) % 12 ≠ 2) (fun _ i => np - (intOf i).toNat)
          case atStart => exact ⟨0, Nat.zero_le _, rfl, rfl, fun j hj => absurd hj (Nat.not_lt_zero _)⟩
          case round =>
            obtain ⟨m, hm, rfl, rfl, hno⟩ := hrel
            have HNO : Hid (∀ i, i < m → f0 (ps i) % 12 ≠ 2) := hno
            clear hno
            by_cases hlt : m < np
            · obtain ⟨cb, co, rfl, hcc⟩ := HWC.out m hlt
              have hpm := HPS.out m hlt
              obtain ⟨b, off, rfl, hb, hc0, hwf⟩ := HW0.out (ps m) hpm
              have hc : W.cell? ⟨b, off + ps m, none⟩ = some (.int .u8 (f0 (ps m))) := (hbW.cell hb).trans hc0
              obtain ⟨hbd1, hbd2⟩ := bounds_u8 hwf
              clear hc0 hwf
              by_cases h2 : f0 (ps m) % 12 = 2
              · have h2b : (f0 (ps m) % 12 == 2) = true := by simp [h2]
                obtain rfl := HFQ.out.hit hlt h2 HNO.out
                clear h2
                go_wp2_with (go_at_call 9; refine (equal_any _ _ _ _ _ (fun j => (ps j : Int)) W (by unfold maxLen; omega) HWP.out (by exact HWC.out)).mono ?_; rintro e w' ⟨rfl, q, hw⟩; subst hw)
                go_loopw [17] (fun i wr => ∃ m q : Nat, m ≤ k ∧ i = .int .i64 m ∧ wr = W.drewN q) (fun i _ => k - (intOf i).toNat)
                case atStart => exact ⟨0, q, Nat.zero_le _, rfl, rfl⟩
                case round =>
                  obtain ⟨t, q, ht, rfl, rfl⟩ := hrel
                  by_cases hlt4 : t < k
                  · obtain ⟨b4, off4, e4, hb4, hc04, hwf4⟩ := HW0.out t hlt4
                    cases e4
                    have hc4 := (hbW.cell hb4).trans hc04
                    obtain ⟨hbd41, hbd42⟩ := bounds_u8 hwf4
                    obtain ⟨hs1, hs2⟩ := HWS.out t hlt4
                    have hltI : (t : Int) < k := by omega
                    clear hc04 hwf4
                    go_wp2
                    go_quiet (fail)
                    go_wp2
                    go_roundw
                    case rel => exact ⟨t + 1, _, by omega, by go_num, rfl⟩
                    case measure => simp [intOf]; omega
                  · go_wp2
                    go_ret
                    exact ⟨rfl, below_drewN hbW _⟩
              · have h2b : (f0 (ps m) % 12 == 2) = false := by simp [h2]
                have H2 : Hid (f0 (ps m) % 12 ≠ 2) := h2
                clear h2
                go_wp2
                go_round
                case rel =>
                  refine ⟨m + 1, by omega, by go_num, rfl, fun i hi => ?_⟩
                  by_cases e : i = m
                  · subst e; exact H2.out
                  · exact HNO.out i (by omega)
                case measure => simp [intOf]; omega
            · have hml : np = m := by omega
              subst hml
              obtain rfl := HFQ.out.miss HNO.out
              go_wp2_with (go_at_call 9; refine (equal_any _ _ _ _ _ (fun j => (ps j : Int)) W (by unfold maxLen; omega) HWP.out (by exact HWC.out)).mono ?_; rintro e w' ⟨rfl, q, hw⟩; subst hw)
              go_loopw [17] (fun i wr => ∃ m q : Nat, m ≤ k ∧ i = .int .i64 m ∧ wr = W.drewN q) (fun i _ => k - (intOf i).toNat)
              case atStart => exact ⟨0, q, Nat.zero_le _, rfl, rfl⟩
              case round =>
                obtain ⟨t, q, ht, rfl, rfl⟩ := hrel
                by_cases hlt4 : t < k
                · obtain ⟨b4, off4, e4, hb4, hc04, hwf4⟩ := HW0.out t hlt4
                  subst e4
                  have hc4 := (hbW.cell hb4).trans hc04
                  obtain ⟨hbd41, hbd42⟩ := bounds_u8 hwf4
                  obtain ⟨hs1, hs2⟩ := HWS.out t hlt4
                  have hltI : (t : Int) < k := by omega
                  clear hc04 hwf4
                  go_wp2
                  go_quiet (fail)
                  go_wp2
                  go_roundw
                  case rel => exact ⟨t + 1, _, by omega, by go_num, rfl⟩
                  case measure => simp [intOf]; omega
                · go_wp2
                  go_ret
                  exact ⟨rfl, below_drewN hbW _⟩
