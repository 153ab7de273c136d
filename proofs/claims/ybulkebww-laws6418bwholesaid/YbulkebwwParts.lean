import Derived.Test.YbulkebwwRows
import Derived.WalkKit
import Derived.ProofKit
import Derived.Below
import Derived.Deep.MidRow
import Derived.Deep.Cut
import Derived.Deep.QuietTactic
import Derived.BigQuiet
import Derived.WalkSpells
import Derived.Lib.SliceRun
namespace Go.Proofs.Ybulkebww.lawS6418BWhole
open Go.ChangeShapes Go.WideShapes Go.ChangeAt Go.RowKit
set_option linter.unusedVariables false
theorem info41 : (Yba.prog.info? 41).map (fun i => (i.zero, i.size, i.bytes)) = some (some (.agg #[.int .i64 0, .string ⟨#[]⟩, .int .i64 0, .int .i64 0, .int .i64 0, .nilFunc, .nilIface]), 7, 72) := by kernel_rfl
theorem info3 : (Yba.prog.info? 3).map (fun i => (i.zero, i.size, i.bytes)) = some (some (.int .i64 0), 1, 8) := by kernel_rfl

/-- The cells of a slice of ints: 'n' of them from address 'a' on are the numbers 'f'. -/
def IntsAt (w : World) (a : Option Addr) (n : Nat) (f : Nat → Int) : Prop :=
  ∀ j, j < n → ∃ b o, a = some ⟨b, o, none⟩ ∧ w.cell? ⟨b, o + j, none⟩ = some (.int .i64 (f j))

set_option maxHeartbeats 400000 in
theorem equal_any (a1 a2 : Option Addr) (n c1 c2 : Nat) (f : Nat → Int) (w : World) (hn : n ≤ maxLen) (h1 : IntsAt w a1 n f) (h2 : IntsAt w a2 n f) :
    Calls Yba.prog 9 #[.slice a1 n c1, .slice a2 n c2] w fun e w' => e = .returned (.bool true) ∧ ∃ m, w' = w.drewN m := by
  unfold maxLen at hn
  go_enter Yba.func9, Yba.ntmps9
  go_wp2
  go_loopw [13] (fun i wr => ∃ k m : Nat, k ≤ n ∧ i = .int .i64 k ∧ wr = w.drewN m) (fun i _ => n - (intOf i).toNat)
  case atStart => exact ⟨0, 0, Nat.zero_le _, rfl, rfl⟩
  case round =>
    obtain ⟨k, m, hk, rfl, rfl⟩ := hrel
    by_cases hlt : k < n
    · obtain ⟨b1, o1, rfl, hc1⟩ := h1 k hlt
      obtain ⟨b2, o2, rfl, hc2⟩ := h2 k hlt
      have hltI : (k : Int) < n := by omega
      clear h1 h2
      go_wp2
      go_quiet (fail)
      go_wp2
      go_roundw
      case rel => exact ⟨k + 1, _, by omega, by go_num, rfl⟩
      case measure => simp [intOf]; omega
    · go_wp2
      go_ret
      exact ⟨rfl, m, rfl⟩

/-- What 'firstQuiet' answers: the first of the picked places whose kind is 2, or nil. -/
def FQ (N np : Nat) (g : Nat → Int) (ps : Nat → Nat) (p : Option Addr) : Prop :=
  (∃ j, j < np ∧ g (ps j) = 2 ∧ (∀ i, i < j → g (ps i) ≠ 2) ∧ p = some ⟨N, ps j * 7, none⟩) ∨ ((∀ i, i < np → g (ps i) ≠ 2) ∧ p = none)

theorem FQ.hit {N np : Nat} {g : Nat → Int} {ps : Nat → Nat} {p : Option Addr} (h : FQ N np g ps p) {k : Nat} (hk : k < np) (hg : g (ps k) = 2) (hb : ∀ i, i < k → g (ps i) ≠ 2) : p = some ⟨N, ps k * 7, none⟩ := by
  rcases h with ⟨j, hj, h2, hlt, rfl⟩ | ⟨hn, _⟩
  · rcases Nat.lt_trichotomy j k with h | h | h
    · exact absurd h2 (hb j h)
    · subst h; rfl
    · exact absurd hg (hlt k h)
  · exact absurd hg (hn k hk)

theorem FQ.miss {N np : Nat} {g : Nat → Int} {ps : Nat → Nat} {p : Option Addr} (h : FQ N np g ps p) (hb : ∀ i, i < np → g (ps i) ≠ 2) : p = none := by
  rcases h with ⟨j, hj, h2, _⟩ | ⟨_, rfl⟩
  · exact absurd h2 (hb j hj)
  · rfl

set_option maxHeartbeats 400000 in
theorem fq_any (B N len np pc : Nat) (pa : Option Addr) (g : Nat → Int) (ps : Nat → Nat) (w : World) (hl : len ≤ 1048576) (hn : np ≤ 1048576)
    (hp : IntsAt w pa np fun j => (ps j : Int)) (hps : ∀ j, j < np → ps j < len) (hg : ∀ i, i < len → w.cell? ⟨N, i * 7, none⟩ = some (.int .i64 (g i)))
    (hs : w.cell? ⟨B, 0, none⟩ = some (.slice (some ⟨N, 0, none⟩) len len)) (hpd : w.cell? ⟨B, 9, none⟩ = some (.slice pa np pc)) :
    Calls Yba.prog 8 #[.pointer (some ⟨B, 0, none⟩)] w fun e w' => ∃ p, e = .returned (.pointer p) ∧ FQ N np g ps p ∧ w' = w := by
  go_enter Yba.func8, Yba.ntmps8
  go_wp2
  go_loop [10] (fun i => ∃ k : Nat, k ≤ np ∧ i = .int .i64 k ∧ ∀ i, i < k → g (ps i) ≠ 2) (fun i => np - (intOf i).toNat)
  case atStart => exact ⟨0, Nat.zero_le _, rfl, fun i h => absurd h (Nat.not_lt_zero _)⟩
  case round =>
    obtain ⟨k, hk, rfl, hno⟩ := hrel
    have HN : Hid (∀ i, i < k → g (ps i) ≠ 2) := hno
    clear hno
    by_cases hlt : k < np
    · obtain ⟨b, o, rfl, hc⟩ := hp k hlt
      have hpk := hps k hlt
      have hgk := hg _ hpk
      have HG : Hid (∀ i, i < len → w.cell? ⟨N, i * 7, none⟩ = some (.int .i64 (g i))) := hg
      clear hg hp hps
      by_cases h2 : g (ps k) = 2
      · have h2b : (g (ps k) == 2) = true := by simp [h2]
        have H2 : Hid (g (ps k) = 2) := h2
        clear h2
        go_wp2
        go_ret
        exact ⟨_, rfl, .inl ⟨k, hlt, H2.out, HN.out, rfl⟩, rfl⟩
      · have h2b : (g (ps k) == 2) = false := by simp [h2]
        have H2 : Hid (g (ps k) ≠ 2) := h2
        clear h2
        go_wp2
        go_round
        case rel =>
          refine ⟨k + 1, by omega, by go_num, fun i hi => ?_⟩
          by_cases e : i = k
          · subst e; exact H2.out
          · exact HN.out i (by omega)
        case measure => simp [intOf]; omega
    · clear hg hp hps
      go_wp2
      go_ret
      have : k = np := by omega
      subst this
      exact ⟨_, rfl, .inr ⟨HN.out, rfl⟩, rfl⟩

theorem q42 (w : World) (a : Option Addr) (n c n' c' : Nat) : (binOp .eql 42 (.slice a n c) (.slice none n' c')).run Yba.prog w = .ok (.bool a.isNone) w := Lib.run_eql_slice_nil w _ _ a n c n' c' Yba.underlying42

/-- What 'slices.Clone' leaves: a slice of the same numbers, in new memory (or nil). -/
def Cloned (n : Nat) (f : Nat → Int) (w : World) (e : Ending) (w' : World) : Prop :=
  ∃ a' c', e = .returned (.slice a' n c') ∧ IntsAt w' a' n f ∧ Below w.heap.size w w'

theorem intsAt_owns {w : World} {base n : Nat} {v : Value} {f : Nat → Int} (h : w.ownsRow base 3 1 v n ((List.range n).map fun j => .int .i64 (f j))) : ∃ a' c', v = .slice a' n c' ∧ IntsAt w a' n f := by
  obtain ⟨hl, h | ⟨g, cap, cur, rfl, hb, hg, hnc, hcm, hcs, ht⟩⟩ := h
  · obtain ⟨rfl, rfl⟩ := h
    exact ⟨none, 0, rfl, fun j h => absurd h (Nat.not_lt_zero _)⟩
  · refine ⟨_, _, rfl, fun j hj => ⟨g, 0, rfl, ?_⟩⟩
    have e1 : w.cell? ⟨g, 0 + j, none⟩ = cur[0 + j]? := cell_of_row w g (0 + j) cur 3 (0, 0) hg
    rw [e1]
    have : (cur.toList.take (n * 1))[j]? = some (.int .i64 (f j)) := by rw [ht]; simp [hj]
    rw [List.getElem?_take, if_pos (by omega)] at this
    simpa using this

set_option maxHeartbeats 400000 in
theorem clone_any (a : Option Addr) (n c : Nat) (f : Nat → Int) (w : World) (hn : n ≤ 1048576) (hnil : a = none → n = 0 ∧ c = 0) (h1 : IntsAt w a n f) :
    Calls Yba.prog 7 #[.slice a n c] w (Cloned n f w) := by
  have hq := q42
  cases a with
  | none =>
    obtain ⟨rfl, rfl⟩ := hnil rfl
    go_enter Yba.func7, Yba.ntmps7
    go_wp2
    go_ret
    exact ⟨none, 0, rfl, fun j h => absurd h (Nat.not_lt_zero _), Below.refl _ _⟩
  | some ad =>
    obtain ⟨i0, hi, hz0, hz1, hz2⟩ := info_parts info3
    have HI : Hid (IntsAt w (some ad) n f) := h1
    clear h1
    go_enter Yba.func7, Yba.ntmps7
    go_wp2_with ((with_reducible apply wpList_append_own (s := .tmp 5) (x := .tmp 6) (t := 42) (base := w.heap.size) (ht := Yba.underlying42) (hi := hi) (hz := hz0) (hsize := hz1) (hby := hz2) (news := (List.range n).map fun j => .int .i64 (f j)) (xs := []) (n := 0) (v := .slice (some ⟨w.heap.size, 0, none⟩) 0 0) (ad := ad) (m := n) (c := c)); rfl; rfl; rfl; decide; rfl)
    case hown => exact World.ownsRow_lit w #[] 0 (Nat.le_refl _) (Nat.zero_le _) rfl
    case hx => rfl
    case hl => simp
    case hnews =>
      intro j u hu
      have hj : j < n := by
        have := (List.getElem?_eq_some_iff.1 hu).1
        simpa using this
      obtain ⟨b, o, e, hc⟩ := HI.out j hj
      cases e
      simp [hj] at hu
      subst hu
      rw [Addr.add_mid]
      exact (World.cell?_alloc_lt _ _ _ (World.block_lt_of_cell? w _ hc)).trans hc
    case h1 =>
      intro u hu
      obtain ⟨_, _, rfl⟩ := List.mem_map.1 hu
      rfl
    case h63 => unfold maxLen; omega
    case hbytes => omega
    case hbase => simp
    intro v' w' hown hgrow _
    have hown' : w'.ownsRow w.heap.size 3 1 v' n ((List.range n).map fun j => .int .i64 (f j)) := by simpa using hown
    obtain ⟨a', c', rfl, hi'⟩ := intsAt_owns hown'
    clear hown hown'
    go_wp2
    go_ret
    exact ⟨a', c', rfl, hi', ((Below.refl _ _).alloc (Nat.le_refl _) _).grown hgrow (by simp) (by intro k hk; simp [Value.ownBlock] at hk; omega)⟩
