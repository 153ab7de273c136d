import Derived.Test.YbulkebymKept
namespace Go.Proofs.Ybulkebym
open Go.ChangeShapes Go.WideShapes Go.ChangeAt Go.RowKit
set_option linter.unusedVariables false
namespace lawS6421CWhole
theorem info3 : (Yba.prog.info? 3).map (fun i => (i.zero, i.size, i.bytes)) = some (some (.int .i64 0), 1, 8) := by kernel_rfl
theorem info1 : (Yba.prog.info? 1).map (fun i => (i.zero, i.size, i.bytes)) = some (some .nilFunc, 1, 8) := by kernel_rfl

theorem slice_of_owns {w : World} {base : Nat} {e : TypeId} {size : Nat} {v : Value} {n : Nat} {xs : List Value} (h : w.ownsRow base e size v n xs) (hne : ¬ v = .slice none 0 0) : ∃ g cap, v = .slice (some ⟨g, 0, none⟩) n cap := by
  rcases h.2 with ⟨h', _⟩ | ⟨g, cap, cur, rfl, _⟩
  · exact absurd h' hne
  · exact ⟨g, cap, rfl⟩

/-- What the counting closure leaves. -/
def Counted (Cl : Nat) (c : Int) (w : World) (e : Ending) (w' : World) : Prop :=
  e = .returned (.tuple #[]) ∧ w' = w.setCell ⟨Cl, 0, none⟩ (.int .i64 (c + 1))

theorem count_any (Cl : Nat) (c : Int) (w : World) (hc : w.cell? ⟨Cl, 0, none⟩ = some (.int .i64 c)) (hf : w.frozen? ⟨Cl, 0, none⟩ = false) (h0 : 0 ≤ c) (h1 : c ≤ 1000) :
    Calls Yba.prog 25 #[.pointer (some ⟨Cl, 0, none⟩)] w (Counted Cl c w) := by
  go_enter Yba.func25, Yba.ntmps25
  go_wp2
  go_end0
  exact ⟨rfl, rfl⟩

/-- What the logging closure leaves. -/
def Logged (base Lg k : Nat) (xs : List Value) (j : Int) (w : World) (e : Ending) (w' : World) : Prop :=
  e = .returned (.tuple #[]) ∧ ∃ v', w'.cell? ⟨Lg, 0, none⟩ = some v' ∧ w'.frozen? ⟨Lg, 0, none⟩ = false ∧ w'.ownsRow base 3 1 v' (k + 1) (xs ++ [.int .i64 j]) ∧ Kept (fun b => b = Lg ∨ base ≤ b) w w'

set_option maxRecDepth 100000 in
set_option maxHeartbeats 400000 in
theorem log_any (base Lg Jb k : Nat) (v : Value) (xs : List Value) (j : Int) (w : World) (hLg : Lg < base) (hJ : Jb < w.heap.size) (hbw : base ≤ w.heap.size) (hk : k ≤ 1000)
    (hl : w.cell? ⟨Lg, 0, none⟩ = some v) (hf : w.frozen? ⟨Lg, 0, none⟩ = false) (hown : w.ownsRow base 3 1 v k xs) (hj : w.cell? ⟨Jb, 0, none⟩ = some (.int .i64 j)) :
    Calls Yba.prog 23 #[.pointer (some ⟨Lg, 0, none⟩), .pointer (some ⟨Jb, 0, none⟩)] w (Logged base Lg k xs j w) := by
  obtain ⟨i0, hi, hz0, hz1, hz2⟩ := info_parts info3
  have HOWN : Hid (w.ownsRow base 3 1 v k xs) := hown
  clear hown
  go_enter Yba.func23, Yba.ntmps23
  go_wp2_with ((with_reducible apply wpList_append_own (s := .tmp 2) (x := .tmp 4) (t := 29) (base := base) (ht := Yba.underlying29) (hi := hi) (hz := hz0) (hsize := hz1) (hby := hz2) (news := [.int .i64 j]) (xs := xs) (n := k) (v := v) (ad := ⟨w.heap.size, 0, none⟩) (m := 1) (c := 1)); rfl; rfl; rfl; decide; rfl)
  case hown => exact HOWN.out.alloc _
  case hx => rfl
  case hl => rfl
  case hnews => exact cell_one_new _ _ _
  case h1 => intro u hu; simp at hu; subst hu; rfl
  case h63 => unfold maxLen; omega
  case hbytes => omega
  case hbase => simp; omega
  intro v' w1 hown' hgrow hne
  obtain ⟨g, cap, rfl⟩ := slice_of_owns hown' hne
  have hlt := HOWN.out.lt
  have hne1 : some Lg ≠ v.ownBlock := fun e => by have := (hlt Lg e.symm).1; omega
  have hLgw : Lg < w.heap.size := by omega
  have hc1 : w1.cell? ⟨Lg, 0, none⟩ = some v := hgrow.cell (a := ⟨Lg, 0, none⟩) ((World.cell?_alloc_lt _ _ _ hLgw).trans hl) hne1
  have hf1 : w1.frozen? ⟨Lg, 0, none⟩ = false := (World.frozen?_of_block (a := ⟨Lg, 0, none⟩) (hgrow.block Lg (by simp; omega) hne1)).trans ((World.frozen?_alloc_past _ _ _ hLgw).trans hf)
  have HO : Hid (w1.ownsRow base 3 1 (.slice (some ⟨g, 0, none⟩) (k + 1) cap) (k + 1) (xs ++ [.int .i64 j])) := hown'
  have hK : Kept (fun b => b = Lg ∨ base ≤ b) w w1 := ((Kept.refl _ w).alloc _).grown hgrow (fun b hb => .inr (hlt b hb).1)
  clear hown' hgrow hne hne1 hlt hl hf hj HOWN
  go_wp2
  go_end0
  exact ⟨rfl, _, World.cell?_setCell_same _ _ _ hc1, by simpa using hf1, ownsRow_setCell_below HO.out hLg _, hK.setCell (.inl rfl) _⟩

set_option maxRecDepth 100000 in
set_option maxHeartbeats 400000 in
theorem hold_nil (Nd Cl : Nat) (w : World) (hs : w.cell? ⟨Nd, 56, none⟩ = some (.pointer none)) (hc : w.cell? ⟨Cl, 0, none⟩ = some (.int .i64 0)) (hf : w.frozen? ⟨Cl, 0, none⟩ = false) :
    Calls Yba.prog 24 #[.pointer (some ⟨Nd, 0, none⟩), .func (.func 25) #[] #[.pointer (some ⟨Cl, 0, none⟩)]] w (Counted Cl 0 w) := by
  go_enter Yba.func24, Yba.ntmps24
  go_wp2_with (go_at_call 25; refine (count_any Cl 0 w hc hf (by omega) (by omega)).mono ?_; rintro e w' ⟨rfl, rfl⟩)
  go_end0
  exact ⟨rfl, rfl⟩

set_option maxRecDepth 100000 in
set_option maxHeartbeats 400000 in
theorem hold_synced (Nd Cl St : Nat) (w : World) (hs : w.cell? ⟨Nd, 56, none⟩ = some (.pointer (some ⟨St, 0, none⟩))) (hu : w.cell? ⟨St, 10, none⟩ = some (.bool false)) (hc : w.cell? ⟨Cl, 0, none⟩ = some (.int .i64 0)) (hf : w.frozen? ⟨Cl, 0, none⟩ = false) :
    Calls Yba.prog 24 #[.pointer (some ⟨Nd, 0, none⟩), .func (.func 25) #[] #[.pointer (some ⟨Cl, 0, none⟩)]] w (Counted Cl 0 w) := by
  go_enter Yba.func24, Yba.ntmps24
  go_wp2_with (go_at_call 25; refine (count_any Cl 0 w hc hf (by omega) (by omega)).mono ?_; rintro e w' ⟨rfl, rfl⟩)
  go_end0
  exact ⟨rfl, rfl⟩

/-- What 'hold' leaves where it holds f back. -/
def HeldBack (base Nd n : Nat) (v : Value) (fs : List Value) (f : Value) (w : World) (e : Ending) (w' : World) : Prop :=
  e = .returned (.tuple #[]) ∧ ∃ g cap, w'.cell? ⟨Nd, 59, none⟩ = some (.slice (some ⟨g, 0, none⟩) (n + 1) cap) ∧ w'.ownsRow base 1 1 (.slice (some ⟨g, 0, none⟩) (n + 1) cap) (n + 1) (fs ++ [f]) ∧ Kept (fun b => b = Nd ∨ some b = v.ownBlock) w w' ∧ w'.cell? ⟨Nd, 56, none⟩ = w.cell? ⟨Nd, 56, none⟩

set_option maxRecDepth 100000 in
set_option maxHeartbeats 400000 in
theorem hold_back (base Nd Cl St n : Nat) (v : Value) (fs : List Value) (w : World) (hNd : Nd < base) (hbw : base ≤ w.heap.size) (hn : n ≤ 1000) (hs : w.cell? ⟨Nd, 56, none⟩ = some (.pointer (some ⟨St, 0, none⟩))) (hu : w.cell? ⟨St, 10, none⟩ = some (.bool true))
    (hh : w.cell? ⟨Nd, 59, none⟩ = some v) (hf : w.frozen? ⟨Nd, 59, none⟩ = false) (hown : w.ownsRow base 1 1 v n fs) :
    Calls Yba.prog 24 #[.pointer (some ⟨Nd, 0, none⟩), .func (.func 25) #[] #[.pointer (some ⟨Cl, 0, none⟩)]] w (HeldBack base Nd n v fs (.func (.func 25) #[] #[.pointer (some ⟨Cl, 0, none⟩)]) w) := by
  obtain ⟨i0, hi, hz0, hz1, hz2⟩ := info_parts info1
  have HOWN : Hid (w.ownsRow base 1 1 v n fs) := hown
  have hNdw : Nd < w.heap.size := by omega
  clear hown
  go_enter Yba.func24, Yba.ntmps24
  go_wp2_with ((with_reducible apply wpList_append_own (s := .tmp 25) (x := .tmp 27) (t := 150) (base := base) (ht := Yba.underlying150) (hi := hi) (hz := hz0) (hsize := hz1) (hby := hz2) (news := [.func (.func 25) #[] #[.pointer (some ⟨Cl, 0, none⟩)]]) (xs := fs) (n := n) (v := v) (ad := ⟨w.heap.size, 0, none⟩) (m := 1) (c := 1)); rfl; rfl; rfl; decide; rfl)
  case hown => exact HOWN.out.alloc _
  case hx => rfl
  case hl => rfl
  case hnews => exact cell_one_new _ _ _
  case h1 => intro u hu; simp at hu; subst hu; rfl
  case h63 => unfold maxLen; omega
  case hbytes => omega
  case hbase => simp; omega
  intro v' w1 hown' hgrow hne
  obtain ⟨g, cap, rfl⟩ := slice_of_owns hown' hne
  have hlt := HOWN.out.lt
  have hne1 : some Nd ≠ v.ownBlock := fun e => by have := (hlt Nd e.symm).1; omega
  have hc1 : w1.cell? ⟨Nd, 59, none⟩ = some v := hgrow.cell (a := ⟨Nd, 59, none⟩) ((World.cell?_alloc_lt _ _ _ hNdw).trans hh) hne1
  have hc2 : w1.cell? ⟨Nd, 56, none⟩ = some (.pointer (some ⟨St, 0, none⟩)) := hgrow.cell (a := ⟨Nd, 56, none⟩) ((World.cell?_alloc_lt _ _ _ hNdw).trans hs) hne1
  have hf1 : w1.frozen? ⟨Nd, 59, none⟩ = false := (World.frozen?_of_block (a := ⟨Nd, 59, none⟩) (hgrow.block Nd (by simp; omega) hne1)).trans ((World.frozen?_alloc_past _ _ _ hNdw).trans hf)
  have HO : Hid (w1.ownsRow base 1 1 (.slice (some ⟨g, 0, none⟩) (n + 1) cap) (n + 1) (fs ++ [.func (.func 25) #[] #[.pointer (some ⟨Cl, 0, none⟩)]])) := hown'
  have hK : Kept (fun b => b = Nd ∨ some b = v.ownBlock) w w1 := ((Kept.refl _ w).alloc _).grown hgrow (fun b hb => .inr hb.symm)
  clear hown' hgrow hne hne1 hlt hh hf hu HOWN
  go_wp2
  go_end0
  exact ⟨rfl, _, _, World.cell?_setCell_same _ _ _ hc1, ownsRow_setCell_below HO.out hNd _, hK.setCell (.inl rfl) _, by rw [World.cell?_setCell_other _ _ _ _ (by intro h; cases h), hc2, hs]⟩
end lawS6421CWhole
end Go.Proofs.Ybulkebym
