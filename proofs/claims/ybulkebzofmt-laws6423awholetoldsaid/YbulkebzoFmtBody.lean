import Derived.Test.YbulkebzoFmtKey
namespace Go.Proofs.YbulkebzoFmt
open Go.ChangeShapes Go.WideShapes Go.ChangeAt Go.RowKit Go.Extern.Stop Go.Stop Go.Extern Go.Lib
set_option maxRecDepth 100000
set_option linter.unusedVariables false
set_option linter.unusedSimpArgs false

/-- The body slice: its bytes at the head of the new row bd. -/
structure Bd (w0 w : World) (cap : Nat) (xs : List Int) : Prop where
  below : Below w0.heap.size w0 w
  own : w.ownsRow w0.heap.size 5 1 (.slice (some ⟨w0.heap.size, 0, none⟩) xs.length cap) xs.length (xs.map (Value.int .u8))
  rng : ∀ x ∈ xs, 0 ≤ x ∧ x < 256
  fit : xs.length ≤ cap

theorem Bd.drewN {w0 w : World} {cap : Nat} {xs : List Int} (h : Bd w0 w cap xs) (q : Nat) : Bd w0 (w.drewN q) cap xs :=
  ⟨h.below.trans ⟨rfl, rfl, rfl, Nat.le_refl _, fun _ _ => rfl⟩, h.own, h.rng, h.fit⟩
theorem Bd.drew {w0 w : World} {cap : Nat} {xs : List Int} (h : Bd w0 w cap xs) : Bd w0 w.drew cap xs := ⟨h.below.drew, h.own, h.rng, h.fit⟩

theorem Bd.row {w0 w : World} {cap : Nat} {xs : List Int} (h : Bd w0 w cap xs) : ∃ cur : Array Value, w.heap[w0.heap.size]? = some (.cells cur 5 (0, 0)) ∧ cur.size = cap ∧ cur.toList.take xs.length = xs.map (Value.int .u8) := by
  obtain ⟨_, h1⟩ := h.own
  rcases h1 with ⟨h1, _⟩ | ⟨g, cap', cur, hv, hbg, hh, _, _, hsz, ht⟩
  · simp at h1
  · simp at hv
    obtain ⟨h2, h3⟩ := hv
    subst h2
    subst h3
    exact ⟨cur, hh, by simpa using hsz, by simpa using ht⟩

theorem Bd.cell {w0 w : World} {cap : Nat} {xs : List Int} (h : Bd w0 w cap xs) {i : Nat} (hi : i < xs.length) : w.cell? ⟨w0.heap.size, i, none⟩ = some (.int .u8 (xs.getD i 0)) := by
  obtain ⟨cur, h1, h2, h3⟩ := h.row
  refine cell_of_row h1 ?_
  have e : (cur.toList.take xs.length)[i]? = some (.int .u8 (xs.getD i 0)) := by
    rw [h3, List.getElem?_map, List.getElem?_eq_getElem hi]
    simp [List.getD, List.getElem?_eq_getElem hi]
  rw [List.getElem?_take_of_lt hi] at e
  simpa using e

theorem Bd.size {w0 w : World} {cap : Nat} {xs : List Int} (h : Bd w0 w cap xs) : w0.heap.size < w.heap.size := by
  obtain ⟨cur, h1, _⟩ := h.row
  rcases Nat.lt_or_ge w0.heap.size w.heap.size with h | h
  · exact h
  · rw [Array.getElem?_eq_none h] at h1; simp at h1

/-- Behind an append of new bytes. -/
theorem Bd.app {w0 w w1 w' : World} {cap : Nat} {xs news : List Int} (h : Bd w0 w cap xs) (hb : Below w.heap.size w w1) (hr : ∀ x ∈ news, 0 ≤ x ∧ x < 256) (hfit : xs.length + news.length ≤ cap)
    (ho : w'.ownsRow w0.heap.size 5 1 (.slice (some ⟨w0.heap.size, 0, none⟩) (xs.length + news.length) cap) (xs.length + news.length) (xs.map (Value.int .u8) ++ news.map (Value.int .u8))) (hg : w1.grownBy w' (some w0.heap.size)) : Bd w0 w' cap (xs ++ news) := by
  have hs := h.size
  refine ⟨(h.below.trans (hb.mono (by omega))).grown hg (by have := hb.size; omega) (by intro k hk; cases hk; exact Nat.le_refl _), ?_, ?_, by simp; omega⟩
  · rw [List.length_append, List.map_append]
    exact ho
  · intro x hx
    rcases List.mem_append.1 hx with h1 | h1
    · exact h.rng x h1
    · exact hr x h1

theorem own_alloc {w0 w : World} {cap : Nat} {xs : List Int} (h : Bd w0 w cap xs) (o : Obj) : (w.alloc o).ownsRow w0.heap.size 5 1 (.slice (some ⟨w0.heap.size, 0, none⟩) xs.length cap) xs.length (xs.map (Value.int .u8)) := by
  obtain ⟨h0, h1⟩ := h.own
  refine ⟨h0, ?_⟩
  rcases h1 with h1 | ⟨g, cap', cur, hv, hbg, hh, r⟩
  · exact .inl h1
  · refine .inr ⟨g, cap', cur, hv, hbg, ?_, r⟩
    rw [heap_alloc_old _ _ (by rcases Nat.lt_or_ge g w.heap.size with h | h; exact h; rw [Array.getElem?_eq_none h] at hh; simp at hh)]
    exact hh

/-- Behind a store of one byte. -/
theorem Bd.set {w0 w : World} {cap : Nat} {xs : List Int} (h : Bd w0 w cap xs) {i : Nat} (hi : i < xs.length) {y : Int} (hy : 0 ≤ y ∧ y < 256) : Bd w0 (w.setCell ⟨w0.heap.size, i, none⟩ (.int .u8 y)) cap (xs.set i y) := by
  obtain ⟨cur, h1, h2, h3⟩ := h.row
  have hfit := h.fit
  rw [setCell_eq_setRow w w0.heap.size i cur 5 (0, 0) _ h1]
  refine ⟨below_setRow h.below (Nat.le_refl _) _, ⟨by simp, .inr ⟨w0.heap.size, cap, cur.setIfInBounds i (.int .u8 y), by simp, Nat.le_refl _, setRow_heap w _ _ _ 5 _ h1, by simp; omega, ?_, by simp [h2], ?_⟩⟩, ?_, by simp; omega⟩
  · obtain ⟨_, ho⟩ := h.own
    rcases ho with ⟨ho, _⟩ | ⟨g, cap', cur', hv, _, _, _, hm, _⟩
    · simp at ho
    · simp at hv; omega
  · simp only [Array.toList_setIfInBounds, List.length_set, Nat.mul_one]
    rw [List.take_set, h3, List.map_set]
  · intro x hx
    rcases List.mem_or_eq_of_mem_set hx with h4 | h4
    · exact h.rng x h4
    · subst h4; exact hy
theorem Bd.frozen {w0 w : World} {cap : Nat} {xs : List Int} (h : Bd w0 w cap xs) (i : Nat) : w.frozen? ⟨w0.heap.size, i, none⟩ = false := by
  obtain ⟨cur, h1, _⟩ := h.row
  exact frozen_of_row h1
end Go.Proofs.YbulkebzoFmt
