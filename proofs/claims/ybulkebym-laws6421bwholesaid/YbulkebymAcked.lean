import Derived.Test.YbulkebymKept
import Derived.Laws.CopyOwn
namespace Go.Proofs.Ybulkebym.lawS6421BWhole
open Go.ChangeShapes Go.WideShapes Go.ChangeAt Go.RowKit
set_option linter.unusedVariables false
theorem info94 : (Yba.prog.info? 94).map (fun i => (i.zero, i.size, i.bytes)) = some (some (.int .u64 0), 1, 8) := by kernel_rfl
theorem size94 : (Yba.prog.info? 94).map (·.size) = some 1 := by kernel_rfl

/-- The slice value (a, n) holds the numbers f, in blocks that meet P. -/
def U64s (P : Nat → Prop) (w : World) (a : Option Addr) (n : Nat) (f : Nat → Int) : Prop :=
  ∀ j, j < n → ∃ b o, a = some ⟨b, o, none⟩ ∧ P b ∧ w.cell? ⟨b, o + j, none⟩ = some (.int .u64 (f j)) ∧ 0 ≤ f j ∧ f j ≤ 18446744073709551615

theorem U64s.mono {P Q : Nat → Prop} {w : World} {a : Option Addr} {n : Nat} {f : Nat → Int} (h : U64s P w a n f) (hpq : ∀ b, P b → Q b) : U64s Q w a n f := fun j hj => by
  obtain ⟨b, o, e, hp, r⟩ := h j hj
  exact ⟨b, o, e, hpq b hp, r⟩

theorem U64s.kept {P S : Nat → Prop} {w w' : World} {a : Option Addr} {n : Nat} {f : Nat → Int} (h : U64s P w a n f) (hk : Kept S w w') (hps : ∀ b, P b → ¬ S b) : U64s P w' a n f := fun j hj => by
  obtain ⟨b, o, e, hp, hc, r⟩ := h j hj
  exact ⟨b, o, e, hp, hk.cell hc (hps b hp), r⟩

/-- f (n of them) is lexicographically smaller than g (m of them). -/
def Less (f : Nat → Int) (n : Nat) (g : Nat → Int) (m : Nat) : Prop :=
  (∃ i, i < n ∧ i < m ∧ (∀ j, j < i → f j = g j) ∧ f i < g i) ∨ ((∀ j, j < n → j < m → f j = g j) ∧ n < m)

theorem less_at {f g : Nat → Int} {n m i : Nat} (hn : i < n) (hm : i < m) (he : ∀ j, j < i → f j = g j) (hne : f i ≠ g i) : (Less f n g m ↔ f i < g i) := by
  constructor
  · rintro (⟨k, h1, h2, h3, h4⟩ | ⟨h1, h2⟩)
    · rcases Nat.lt_trichotomy k i with h | h | h
      · have := he k h; omega
      · subst h; exact h4
      · exact absurd (h3 i h) hne
    · exact absurd (h1 i hn hm) hne
  · intro h; exact .inl ⟨i, hn, hm, he, h⟩

theorem less_end {f g : Nat → Int} {n m : Nat} (he : ∀ j, j < n → j < m → f j = g j) : (Less f n g m ↔ n < m) := by
  constructor
  · rintro (⟨k, h1, h2, h3, h4⟩ | ⟨h1, h2⟩)
    · have := he k h1 h2; omega
    · exact h2
  · intro h; exact .inr ⟨he, h⟩

theorem isNaN_any (x : Int) (w : World) : Calls Yba.prog 72 #[.int .u64 x] w fun e w' => e = .returned (.bool false) ∧ w' = w := by
  go_enter Yba.func72, Yba.ntmps72
  go_wp2
  go_ret
  exact ⟨by simp, rfl⟩

/-- What 'cmp.Compare' answers. -/
def cmpI (x y : Int) : Int := if x < y then -1 else if y < x then 1 else 0

theorem compare_any (x y : Int) (w : World) : Calls Yba.prog 69 #[.int .u64 x, .int .u64 y] w fun e w' => e = .returned (.int .i64 (cmpI x y)) ∧ w' = w := by
  unfold cmpI
  by_cases h1 : x < y
  · rw [if_pos h1]
    go_enter Yba.func69, Yba.ntmps69
    go_wp2_with (go_at_call 72; refine (isNaN_any _ _).mono ?_; rintro e w' ⟨rfl, rfl⟩)
    go_ret
    exact ⟨rfl, rfl⟩
  · rw [if_neg h1]
    by_cases h2 : y < x
    · rw [if_pos h2]
      go_enter Yba.func69, Yba.ntmps69
      go_wp2_with (go_at_call 72; refine (isNaN_any _ _).mono ?_; rintro e w' ⟨rfl, rfl⟩)
      go_ret
      exact ⟨rfl, rfl⟩
    · rw [if_neg h2]
      go_enter Yba.func69, Yba.ntmps69
      go_wp2_with (go_at_call 72; refine (isNaN_any _ _).mono ?_; rintro e w' ⟨rfl, rfl⟩)
      go_ret
      exact ⟨rfl, rfl⟩

/-- What 'slices.Compare' answers: negative just where the first is smaller. -/
def Compared (f : Nat → Int) (n : Nat) (g : Nat → Int) (m : Nat) (w : World) (e : Ending) (w' : World) : Prop :=
  ∃ c : Int, e = .returned (.int .i64 c) ∧ -1 ≤ c ∧ c ≤ 1 ∧ (c < 0 ↔ Less f n g m) ∧ w' = w

set_option maxHeartbeats 400000 in
theorem scompare_any (P Q : Nat → Prop) (a1 a2 : Option Addr) (n m c1 c2 : Nat) (f g : Nat → Int) (w : World) (hn : n ≤ 1048576) (hm : m ≤ 1048576) (h1 : U64s P w a1 n f) (h2 : U64s Q w a2 m g) :
    Calls Yba.prog 60 #[.slice a1 n c1, .slice a2 m c2] w (Compared f n g m w) := by
  have H1 : Hid (U64s P w a1 n f) := h1
  have H2 : Hid (U64s Q w a2 m g) := h2
  clear h1 h2
  go_enter Yba.func60, Yba.ntmps60
  go_wp2
  go_loop [11] (fun i => ∃ k : Nat, k ≤ n ∧ i = .int .i64 k ∧ (k ≤ m) ∧ ∀ j, j < k → f j = g j) (fun i => n - (intOf i).toNat)
  case atStart => exact ⟨0, Nat.zero_le _, rfl, Nat.zero_le _, fun j h => absurd h (Nat.not_lt_zero _)⟩
  case round =>
    obtain ⟨k, hk, rfl, hkm, heq⟩ := hrel
    have HE : Hid (∀ j, j < k → f j = g j) := heq
    clear heq
    by_cases hlt : k < n
    · obtain ⟨b1, o1, rfl, p1, hc1, hf0, hf1⟩ := H1.out k hlt
      by_cases hltm : k < m
      · obtain ⟨b2, o2, rfl, p2, hc2, hg0, hg1⟩ := H2.out k hltm
        by_cases he : f k = g k
        · have hcz : cmpI (f k) (g k) = 0 := by unfold cmpI; rw [if_neg (by omega), if_neg (by omega)]
          have HEK : Hid (f k = g k) := he
          clear he
          go_wp2_with (go_at_call 69; refine (compare_any _ _ _).mono ?_; rintro e w' ⟨rfl, rfl⟩)
          go_round
          case rel =>
            refine ⟨k + 1, by omega, by go_num, by omega, fun j hj => ?_⟩
            by_cases e : j = k
            · subst e; exact HEK.out
            · exact HE.out j (by omega)
          case measure => simp [intOf]; omega
        · have hcz : (cmpI (f k) (g k) == 0) = false := by unfold cmpI; split; rfl; split; rfl; omega
          have hcb : -1 ≤ cmpI (f k) (g k) ∧ cmpI (f k) (g k) ≤ 1 ∧ (cmpI (f k) (g k) < 0 ↔ f k < g k) := by unfold cmpI; split; omega; split <;> omega
          have HNE : Hid (f k ≠ g k) := he
          clear he
          have HCB : Hid (-1 ≤ cmpI (f k) (g k) ∧ cmpI (f k) (g k) ≤ 1 ∧ (cmpI (f k) (g k) < 0 ↔ f k < g k)) := hcb
          clear hcb
          go_wp2_with (go_at_call 69; refine (compare_any _ _ _).mono ?_; rintro e w' ⟨rfl, rfl⟩)
          go_ret
          exact ⟨_, rfl, HCB.out.1, HCB.out.2.1, HCB.out.2.2.trans (less_at hlt hltm HE.out HNE.out).symm, rfl⟩
      · have hkm' : m = k := by omega
        subst hkm'
        go_wp2
        go_ret
        exact ⟨1, rfl, by omega, by omega, by rw [less_end (fun j _ h => HE.out j h)]; omega, rfl⟩
    · have hkn : n = k := by omega
      subst hkn
      by_cases hnm : n < m
      · go_wp2
        go_ret
        exact ⟨-1, rfl, by omega, by omega, by rw [less_end (fun j h _ => HE.out j h)]; omega, rfl⟩
      · go_wp2
        go_ret
        exact ⟨0, rfl, by omega, by omega, by rw [less_end (fun j h _ => HE.out j h)]; omega, rfl⟩

theorem stampCompare_any (P Q : Nat → Prop) (a1 a2 : Option Addr) (n m c1 c2 : Nat) (f g : Nat → Int) (w : World) (hn : n ≤ 1048576) (hm : m ≤ 1048576) (h1 : U64s P w a1 n f) (h2 : U64s Q w a2 m g) :
    Calls Yba.prog 36 #[.slice a1 n c1, .slice a2 m c2] w (Compared f n g m w) := by
  go_enter Yba.func36, Yba.ntmps36
  go_wp2_with (go_at_call 60; refine (scompare_any P Q a1 a2 n m c1 c2 f g w hn hm h1 h2).mono ?_; rintro e w' ⟨c, rfl, x1, x2, x3, hw⟩; replace hw := hw.symm; subst hw)
  go_ret
  exact ⟨c, rfl, x1, x2, x3, rfl⟩

theorem drew3 (w : World) (q a b : Nat) : ∃ r, ((w.drewN q).drewN a).drewN b = w.drewN r := ⟨q + (a + b), by rw [World.drewN_drewN, World.drewN_drewN]⟩

/-- What 'zzs6421bless' answers. -/
def Lessed (f : Nat → Int) (n : Nat) (g : Nat → Int) (m : Nat) (w : World) (e : Ending) (w' : World) : Prop :=
  ∃ c : Bool, e = .returned (.bool c) ∧ (c = true ↔ Less f n g m) ∧ ∃ q, w' = w.drewN q

set_option maxHeartbeats 400000 in
theorem bless_any (P Q : Nat → Prop) (a1 a2 : Option Addr) (n m c1 c2 : Nat) (f g : Nat → Int) (w : World) (hn : n ≤ 1048576) (hm : m ≤ 1048576) (h1 : U64s P w a1 n f) (h2 : U64s Q w a2 m g) :
    Calls Yba.prog 21 #[.slice a1 n c1, .slice a2 m c2] w (Lessed f n g m w) := by
  have H1 : Hid (U64s P w a1 n f) := h1
  have H2 : Hid (U64s Q w a2 m g) := h2
  clear h1 h2
  by_cases hmn : m < n
  · have hmI : (m : Int) < n := by omega
    go_enter Yba.func21, Yba.ntmps21
    go_wp2
    go_loopw [6] (fun i wr => ∃ k q : Nat, k ≤ m ∧ i = .int .i64 k ∧ (∀ j, j < k → f j = g j) ∧ wr = w.drewN q) (fun i _ => m - (intOf i).toNat)
    case atStart => exact ⟨0, 0, Nat.zero_le _, rfl, fun j h => absurd h (Nat.not_lt_zero _), rfl⟩
    case round =>
      obtain ⟨k, q, hk, rfl, heq, rfl⟩ := hrel
      have HE : Hid (∀ j, j < k → f j = g j) := heq
      clear heq
      by_cases hlt : k < m
      · obtain ⟨b1, o1, rfl, p1, hc1, hf0, hf1⟩ := H1.out k (by omega)
        obtain ⟨b2, o2, rfl, p2, hc2, hg0, hg1⟩ := H2.out k (by omega)
        have hkn : (k : Int) < n := by omega
        have hkm : (k : Int) < m := by omega
        by_cases he : f k = g k
        · have heb : (f k == g k) = true := by simp [he]
          have HEK : Hid (f k = g k) := he
          clear he
          go_wp2
          go_quiet (fail)
          go_wp2
          go_roundw
          case rel =>
            refine ⟨k + 1, _, by omega, by go_num, fun j hj => ?_, rfl⟩
            by_cases e : j = k
            · subst e; exact HEK.out
            · exact HE.out j (by omega)
          case measure => simp [intOf]; omega
        · have heb : (f k == g k) = false := by simp [he]
          have HNE : Hid (f k ≠ g k) := he
          clear he
          go_wp2
          go_quiet (fail)
          go_wp2
          go_quiet (fail)
          go_wp2
          go_ret
          exact ⟨_, rfl, by rw [less_at (by omega) (by omega) HE.out HNE.out]; simp, drew3 _ _ _ _⟩
      · have hkn : k = m := by omega
        subst hkn
        go_wp2
        go_ret
        exact ⟨_, rfl, by rw [less_end (fun j h h' => HE.out j (by omega))]; simp; try omega, _, rfl⟩
  · have hmI : (n : Int) ≤ m := by omega
    go_enter Yba.func21, Yba.ntmps21
    go_wp2
    go_loopw [6] (fun i wr => ∃ k q : Nat, k ≤ n ∧ i = .int .i64 k ∧ (∀ j, j < k → f j = g j) ∧ wr = w.drewN q) (fun i _ => n - (intOf i).toNat)
    case atStart => exact ⟨0, 0, Nat.zero_le _, rfl, fun j h => absurd h (Nat.not_lt_zero _), rfl⟩
    case round =>
      obtain ⟨k, q, hk, rfl, heq, rfl⟩ := hrel
      have HE : Hid (∀ j, j < k → f j = g j) := heq
      clear heq
      by_cases hlt : k < n
      · obtain ⟨b1, o1, rfl, p1, hc1, hf0, hf1⟩ := H1.out k (by omega)
        obtain ⟨b2, o2, rfl, p2, hc2, hg0, hg1⟩ := H2.out k (by omega)
        have hkn : (k : Int) < n := by omega
        have hkm : (k : Int) < m := by omega
        by_cases he : f k = g k
        · have heb : (f k == g k) = true := by simp [he]
          have HEK : Hid (f k = g k) := he
          clear he
          go_wp2
          go_quiet (fail)
          go_wp2
          go_roundw
          case rel =>
            refine ⟨k + 1, _, by omega, by go_num, fun j hj => ?_, rfl⟩
            by_cases e : j = k
            · subst e; exact HEK.out
            · exact HE.out j (by omega)
          case measure => simp [intOf]; omega
        · have heb : (f k == g k) = false := by simp [he]
          have HNE : Hid (f k ≠ g k) := he
          clear he
          go_wp2
          go_quiet (fail)
          go_wp2
          go_quiet (fail)
          go_wp2
          go_ret
          exact ⟨_, rfl, by rw [less_at (by omega) (by omega) HE.out HNE.out]; simp, drew3 _ _ _ _⟩
      · have hkn : k = n := by omega
        subst hkn
        go_wp2
        go_ret
        exact ⟨_, rfl, by rw [less_end (fun j h h' => HE.out j (by omega))]; simp; try omega, _, rfl⟩

theorem q83 (w : World) (a : Option Addr) (n c n' c' : Nat) : (binOp .eql 83 (.slice a n c) (.slice none n' c')).run Yba.prog w = .ok (.bool a.isNone) w := Lib.run_eql_slice_nil w _ _ a n c n' c' Yba.underlying83

set_option maxHeartbeats 400000 in
theorem bsame_any (P Q : Nat → Prop) (a1 a2 : Option Addr) (n c1 c2 : Nat) (f : Nat → Int) (w : World) (hn : n ≤ 1048576) (hnil : a1.isNone = a2.isNone) (h1 : U64s P w a1 n f) (h2 : U64s Q w a2 n f) :
    Calls Yba.prog 22 #[.slice a1 n c1, .slice a2 n c2] w fun e w' => e = .returned (.bool true) ∧ ∃ q, w' = w.drewN q := by
  have H1 : Hid (U64s P w a1 n f) := h1
  have H2 : Hid (U64s Q w a2 n f) := h2
  have hq := q83
  clear h1 h2
  cases a1 with
  | none =>
    cases a2 with
    | some x => simp at hnil
    | none =>
      have hn0 : n = 0 := by
        by_cases h : n = 0
        · exact h
        · obtain ⟨_, _, e, _⟩ := H1.out 0 (by omega)
          cases e
      subst hn0
      go_enter Yba.func22, Yba.ntmps22
      go_wp2
      go_loop [5] (fun i => i = .int .i64 0) (fun i => 0)
      case atStart => rfl
      case round =>
        subst hrel
        go_wp2
        go_ret
        exact ⟨rfl, 0, rfl⟩
  | some x1 =>
    cases a2 with
    | none => simp at hnil
    | some x2 =>
      go_enter Yba.func22, Yba.ntmps22
      go_wp2
      go_loopw [5] (fun i wr => ∃ k q : Nat, k ≤ n ∧ i = .int .i64 k ∧ wr = w.drewN q) (fun i _ => n - (intOf i).toNat)
      case atStart => exact ⟨0, 0, Nat.zero_le _, rfl, rfl⟩
      case round =>
        obtain ⟨k, q, hk, rfl, rfl⟩ := hrel
        by_cases hlt : k < n
        · obtain ⟨b1, o1, e1, p1, hc1, hf0, hf1⟩ := H1.out k hlt
          obtain ⟨b2, o2, e2, p2, hc2, hg0, hg1⟩ := H2.out k hlt
          cases e1; cases e2
          have hkn : (k : Int) < n := by omega
          go_wp2
          go_quiet (fail)
          go_wp2
          go_roundw
          case rel => exact ⟨k + 1, _, by omega, by go_num, rfl⟩
          case measure => simp [intOf]; omega
        · go_wp2
          go_ret
          exact ⟨rfl, q, rfl⟩

theorem setRow_u64 {w : World} {g n : Nat} {f : Nat → Int} {cur : Array Value} {rest : List Value} (hg : w.heap[g]? = some (.cells cur 94 (0, 0))) (hb : ∀ j, j < n → 0 ≤ f j ∧ f j ≤ 18446744073709551615) :
    U64s (fun b => g ≤ b) (w.setRow g ((List.range n).map (fun (j : Nat) => Value.int .u64 (f j)) ++ rest).toArray) (some ⟨g, 0, none⟩) n f := by
  intro j hj
  refine ⟨g, 0, rfl, Nat.le_refl _, ?_, hb j hj⟩
  rw [cell_of_row _ g (0 + j) _ 94 (0, 0) (setRow_heap w g cur _ 94 _ hg)]
  simp [hj, List.getElem?_append]

/-- What 'zzs6421bclone' leaves: the same numbers in new memory. -/
def Cloned (B : Nat) (a : Option Addr) (n : Nat) (f : Nat → Int) (w : World) (e : Ending) (w' : World) : Prop :=
  ∃ a' c', e = .returned (.slice a' n c') ∧ a'.isNone = a.isNone ∧ U64s (fun b => B ≤ b) w' a' n f ∧ Below B w w'

set_option maxRecDepth 100000 in
set_option maxHeartbeats 400000 in
theorem bclone_any (P : Nat → Prop) (a : Option Addr) (n c : Nat) (f : Nat → Int) (w : World) (hn : n ≤ 1048576) (h1 : U64s P w a n f) :
    Calls Yba.prog 19 #[.slice a n c] w (Cloned w.heap.size a n f w) := by
  have H1 : Hid (U64s P w a n f) := h1
  have HB : Hid (∀ j, j < n → 0 ≤ f j ∧ f j ≤ 18446744073709551615) := fun j hj => by obtain ⟨_, _, _, _, _, r⟩ := h1 j hj; exact r
  have hq := q83
  clear h1
  cases a with
  | none =>
    have hn0 : n = 0 := by
      by_cases h : n = 0
      · exact h
      · obtain ⟨_, _, e, _⟩ := H1.out 0 (by omega)
        cases e
    subst hn0
    go_enter Yba.func19, Yba.ntmps19
    go_wp2
    go_ret
    exact ⟨none, 0, rfl, rfl, fun j h => absurd h (Nat.not_lt_zero _), Below.refl _ _⟩
  | some ad =>
    obtain ⟨i0, hi, hz0, hz1, hz2⟩ := info_parts info94
    go_enter Yba.func19, Yba.ntmps19
    go_upto_region 4 with (at_make; refine wpList_make_full _ rfl _ _ 85 rfl w.heap.size 94 i0 _ 1 Yba.underlying85 hi hz0 hz1 _ _ _ _ n rfl rfl rfl rfl (by rw [hz2]; omega) (by unfold maxLen; omega) (Nat.le_refl _) ?_; intro wA hown hgrow)
    obtain ⟨cur, hg, hcs⟩ : ∃ cur, wA.heap[w.heap.size]? = some (.cells cur 94 (0, 0)) ∧ cur.size = n := by
      rcases hown.2 with ⟨h', _⟩ | ⟨g', cap', cur, h', _, hg, _, _, hcs, _⟩
      · simp at h'
      · simp only [Value.slice.injEq, Option.some.injEq, Addr.mk.injEq, and_true, true_and] at h'
        obtain ⟨rfl, rfl⟩ := h'
        exact ⟨cur, hg, by omega⟩
    have hbA : Below w.heap.size w wA := (Below.refl _ _).grown hgrow (Nat.le_refl _) (by intro k h; cases h)
    clear hown hgrow
    have HG : Hid (wA.heap[w.heap.size]? = some (.cells cur 94 (0, 0))) := hg
    clear hg
    go_wp2_with ((with_reducible apply wpList_copy_own (d := .tmp 9) (s := .tmp 10) (dT := 85) (sT := 83) (elem := 94) (hu := Yba.underlying85) (hsz := size94) (g := w.heap.size) (off := 0) (dLen := n) (dCap := n) (ad := ad) (sLen := n) (sCap := c) (cur := cur) (t := 94) (hg := HG.out) (cs := (List.range n).map fun (j : Nat) => .int .u64 (f j))); rfl; rfl; rfl; rfl)
    case hn => simp
    case hsrc =>
      intro j v hv
      have hj : j < n := by
        have := (List.getElem?_eq_some_iff.1 hv).1
        simpa using this
      obtain ⟨b, o, e, p, hc, _⟩ := H1.out j hj
      cases e
      simp [hj] at hv
      subst hv
      rw [Addr.add_mid]
      exact (hbA.cell (World.block_lt_of_cell? w _ hc)).trans hc
    case hfit => simp [hcs]
    case h1 =>
      intro u hu
      obtain ⟨_, _, rfl⟩ := List.mem_map.1 hu
      rfl
    go_ret
    exact ⟨_, _, rfl, rfl, setRow_u64 HG.out (fun j hj => HB.out j hj), below_setRow hbA (Nat.le_refl _) _⟩

/-- The stamps that a slice of slices holds: value i is the slice (A i, L i, C i), with the numbers F i. -/
def Stamps (P : Nat → Prop) (w : World) (a : Option Addr) (n : Nat) (A : Nat → Option Addr) (L C : Nat → Nat) (F : Nat → Nat → Int) : Prop :=
  ∀ i, i < n → (∃ b o, a = some ⟨b, o, none⟩ ∧ w.cell? ⟨b, o + i, none⟩ = some (.slice (A i) (L i) (C i))) ∧ U64s P w (A i) (L i) (F i)

/-- What 'ackedByAll' answers. -/
def AllAcked (n : Nat) (L : Nat → Nat) (F : Nat → Nat → Int) (g : Nat → Int) (m : Nat) (w : World) (e : Ending) (w' : World) : Prop :=
  ∃ c : Bool, e = .returned (.bool c) ∧ (c = true ↔ ∀ i, i < n → ¬ Less (F i) (L i) g m) ∧ w' = w

set_option maxRecDepth 100000 in
set_option maxHeartbeats 400000 in
theorem acked_any (P Q : Nat → Prop) (Nd n m cn c2 : Nat) (a a2 : Option Addr) (A : Nat → Option Addr) (L C : Nat → Nat) (F : Nat → Nat → Int) (g : Nat → Int) (w : World) (hn : n ≤ 1048576) (hm : m ≤ 1048576) (hL : ∀ i, i < n → L i ≤ 1048576)
    (hs : Stamps P w a n A L C F) (h2 : U64s Q w a2 m g) (hnd : w.cell? ⟨Nd, 8, none⟩ = some (.slice a n cn)) :
    Calls Yba.prog 20 #[.pointer (some ⟨Nd, 0, none⟩), .slice a2 m c2] w (AllAcked n L F g m w) := by
  have HS : Hid (Stamps P w a n A L C F) := hs
  have HL : Hid (∀ i, i < n → L i ≤ 1048576) := hL
  have H2 : Hid (U64s Q w a2 m g) := h2
  clear hs h2 hL
  go_enter Yba.func20, Yba.ntmps20
  go_wp2
  go_loop [12] (fun i => ∃ k : Nat, k ≤ n ∧ i = .int .i64 k ∧ ∀ j, j < k → ¬ Less (F j) (L j) g m) (fun i => n - (intOf i).toNat)
  case atStart => exact ⟨0, Nat.zero_le _, rfl, fun j h => absurd h (Nat.not_lt_zero _)⟩
  case round =>
    obtain ⟨k, hk, rfl, hno⟩ := hrel
    have HN : Hid (∀ j, j < k → ¬ Less (F j) (L j) g m) := hno
    clear hno
    by_cases hlt : k < n
    · obtain ⟨⟨b, o, rfl, hc⟩, hu⟩ := HS.out k hlt
      have HU : Hid (U64s P w (A k) (L k) (F k)) := hu
      clear hu
      by_cases hl : Less (F k) (L k) g m
      · have HLs : Hid (Less (F k) (L k) g m) := hl
        clear hl
        go_wp2_with (go_at_call 36; refine (stampCompare_any P Q (A k) a2 (L k) m (C k) c2 (F k) g w (HL.out k hlt) hm HU.out H2.out).mono ?_; rintro e w' ⟨c, rfl, x1, x2, x3, hw⟩; replace hw := hw.symm; subst hw; have x4 := x3.2 HLs.out; clear x3)
        go_ret
        exact ⟨false, rfl, ⟨(fun h => by cases h), fun h => absurd HLs.out (h k hlt)⟩, rfl⟩
      · have HLs : Hid (¬ Less (F k) (L k) g m) := hl
        clear hl
        go_wp2_with (go_at_call 36; refine (stampCompare_any P Q (A k) a2 (L k) m (C k) c2 (F k) g w (HL.out k hlt) hm HU.out H2.out).mono ?_; rintro e w' ⟨c, rfl, x1, x2, x3, hw⟩; replace hw := hw.symm; subst hw; have x4 : ¬ c < 0 := fun h => HLs.out (x3.1 h); clear x3)
        go_round
        case rel =>
          refine ⟨k + 1, by omega, by go_num, fun j hj => ?_⟩
          by_cases e : j = k
          · subst e; exact HLs.out
          · exact HN.out j (by omega)
        case measure => simp [intOf]; omega
    · have hkn : n = k := by omega
      subst hkn
      go_wp2
      go_ret
      exact ⟨true, rfl, ⟨fun _ => HN.out, fun _ => rfl⟩, rfl⟩
end Go.Proofs.Ybulkebym.lawS6421BWhole
