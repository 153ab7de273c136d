import Derived.Test.YbulkebymHold
import Derived.LaidEqlPtr
namespace Go.Proofs.Ybulkebym.lawS6421CWhole
open Go.ChangeShapes Go.WideShapes Go.ChangeAt Go.RowKit
set_option linter.unusedVariables false

theorem wpList_built {P : Program} {ops : Array Oper} {rest : List Oper} {o : Oper} {a : Act} {w : World} {Q : Exit → Act → World → Prop} (hg : o.guard = none) (t : TypeId) (parts : Array (Nat × Operand)) (ho : o.op = .build t parts)
    (cells : Array Value) (hf : P.built t (parts.map fun (i, x) => (i, a.eval x)).toList = some cells) (h : wpList P ops Q rest (a.put o.dst (.agg cells)) w) : wpList P ops Q (o :: rest) a w :=
  wpList_build hg t parts ho (by rw [hf]; rfl) (by rw [hf]; exact h)

theorem node_zero : (Yba.prog.built 152 []).map (fun c => (c[56]?, c[59]?)) = some (some (.pointer none), some (.slice none 0 0)) := by kernel_rfl

/-- The variables 'log', 'calls' and the node as the law lays them: blocks N, N + 1, N + 2; 'sv': the node's state. -/
structure Setup (w wx : World) (N : Nat) (sv : Value) : Prop where
  size : N + 3 ≤ wx.heap.size
  log : wx.cell? ⟨N, 0, none⟩ = some (.slice none 0 0)
  logF : wx.frozen? ⟨N, 0, none⟩ = false
  calls : wx.cell? ⟨N + 1, 0, none⟩ = some (.int .i64 0)
  callsF : wx.frozen? ⟨N + 1, 0, none⟩ = false
  state : wx.cell? ⟨N + 2, 56, none⟩ = some sv
  held : ∃ v, wx.cell? ⟨N + 2, 59, none⟩ = some v
  heldF : wx.frozen? ⟨N + 2, 59, none⟩ = false
  below : Below N w wx

theorem cell_set_other {w : World} {p q : Addr} {v u : Value} (h : w.cell? q = some v) (hne : p ≠ q) : (w.setCell p u).cell? q = some v := (World.cell?_setCell_other _ _ _ _ hne).trans h

theorem cell_one_new' (w : World) (v : Value) (t : TypeId) {b : Nat} (hb : b = w.heap.size) : ∀ j u, [v][j]? = some u → (w.alloc (.cells #[v] t)).cell? ((⟨b, 0, none⟩ : Addr).add j) = some u := by
  subst hb; exact cell_one_new w v t

/-- The closures that the law lays into 'held'. -/
def FsAt (w : World) (N H k : Nat) (fs : List Value) : Prop :=
  ∀ i, i < k → ∃ Jb, H < Jb ∧ fs[i]? = some (.func (.func 23) #[] #[.pointer (some ⟨N, 0, none⟩), .pointer (some ⟨Jb, 0, none⟩)]) ∧ w.cell? ⟨Jb, 0, none⟩ = some (.int .i64 (i : Int))

theorem FsAt.push {w w' : World} {N H k : Nat} {fs : List Value} (h : FsAt w N H k fs) (hl : fs.length = k) (hH : H < w.heap.size)
    (hg : ((w.alloc (.cells #[.int .i64 (k : Int)] 3)).alloc (.cells #[.func (.func 23) #[] #[.pointer (some ⟨N, 0, none⟩), .pointer (some ⟨w.heap.size, 0, none⟩)]] 1)).grownBy w' (some H)) :
    FsAt w' N H (k + 1) (fs ++ [.func (.func 23) #[] #[.pointer (some ⟨N, 0, none⟩), .pointer (some ⟨w.heap.size, 0, none⟩)]]) := by
  intro i hi
  by_cases e : i = k
  · subst e
    refine ⟨w.heap.size, hH, by simp [← hl], ?_⟩
    refine hg.cell ?_ (by intro e; simp at e; omega)
    rw [World.cell?_alloc_lt _ _ _ (by simp)]
    exact World.cell?_alloc_new _ _ _ _
  · obtain ⟨Jb, h1, h2, h3⟩ := h i (by omega)
    have hlt := World.block_lt_of_cell? w _ h3
    have hlt' : Jb < w.heap.size := hlt
    refine ⟨Jb, h1, by rw [List.getElem?_append_left (by omega)]; exact h2, hg.cell ?_ (by intro e; simp at e; omega)⟩
    rw [World.cell?_alloc_lt _ _ _ (by simp; omega), World.cell?_alloc_lt _ _ _ hlt]
    exact h3

/-- What stands at the head of the loop that runs the closures. -/
structure Run (w : World) (N H m n cap base k : Nat) (c : Int) (wr : World) : Prop where
  held : wr.cell? ⟨N + 2, 59, none⟩ = some (.slice (some ⟨H, 0, none⟩) m cap)
  fs : ∀ i, i < n → ∃ Jb, N + 3 ≤ Jb ∧ Jb < base ∧ wr.cell? ⟨H, i, none⟩ = some (.func (.func 23) #[] #[.pointer (some ⟨N, 0, none⟩), .pointer (some ⟨Jb, 0, none⟩)]) ∧ wr.cell? ⟨Jb, 0, none⟩ = some (.int .i64 (i : Int))
  hH : N + 3 ≤ H ∧ H < base
  log : ∃ v, wr.cell? ⟨N, 0, none⟩ = some v ∧ wr.frozen? ⟨N, 0, none⟩ = false ∧ wr.ownsRow base 3 1 v (min k n) ((List.range (min k n)).map fun (j : Nat) => .int .i64 (j : Int))
  calls : wr.cell? ⟨N + 1, 0, none⟩ = some (.int .i64 c)
  callsF : wr.frozen? ⟨N + 1, 0, none⟩ = false
  below : Below N w wr
  size : base ≤ wr.heap.size ∧ N + 3 ≤ base

theorem Run.logged {w wr w' : World} {N H m n cap base k : Nat} {c : Int} (h : Run w N H m n cap base k c wr) (hk : k < n) {v' : Value}
    (h1 : w'.cell? ⟨N, 0, none⟩ = some v') (h2 : w'.frozen? ⟨N, 0, none⟩ = false) (h3 : w'.ownsRow base 3 1 v' (k + 1) (((List.range k).map fun (j : Nat) => Value.int .i64 (j : Int)) ++ [.int .i64 (k : Int)])) (hK : Kept (fun b => b = N ∨ base ≤ b) wr w') :
    Run w N H m n cap base (k + 1) c w' := by
  obtain ⟨hs1, hs2⟩ := h.size
  obtain ⟨hH1, hH2⟩ := h.hH
  refine ⟨hK.cell h.held (by show ¬ (N + 2 = N ∨ base ≤ N + 2); omega), ?_, h.hH, ⟨v', h1, h2, ?_⟩, hK.cell h.calls (by show ¬ (N + 1 = N ∨ base ≤ N + 1); omega), ?_, h.below.trans (hK.below N (by omega) (by intro k hk; show ¬ (k = N ∨ base ≤ k); omega)), by have := hK.size; omega, hs2⟩
  · intro i hi
    obtain ⟨Jb, a, b, c', d⟩ := h.fs i hi
    exact ⟨Jb, a, b, hK.cell c' (by show ¬ (H = N ∨ base ≤ H); omega), hK.cell d (by show ¬ (Jb = N ∨ base ≤ Jb); omega)⟩
  · rw [Nat.min_eq_left (by omega : k + 1 ≤ n), List.range_succ, List.map_append]
    exact h3
  · rw [hK.frozen (p := ⟨N + 1, 0, none⟩) (by show N + 1 < _; omega) (by show ¬ (N + 1 = N ∨ base ≤ N + 1); omega)]
    exact h.callsF

theorem Run.counted {w wr : World} {N H m n cap base k : Nat} {c : Int} (h : Run w N H m n cap base k c wr) (hk : n ≤ k) (c' : Int) :
    Run w N H m n cap base (k + 1) c' (wr.setCell ⟨N + 1, 0, none⟩ (.int .i64 c')) := by
  obtain ⟨hs1, hs2⟩ := h.size
  obtain ⟨hH1, hH2⟩ := h.hH
  obtain ⟨v, l1, l2, l3⟩ := h.log
  refine ⟨cell_set_other h.held (by intro e; cases e), ?_, h.hH, ⟨v, cell_set_other l1 (by intro e; simp at e), by simpa using l2, ?_⟩, World.cell?_setCell_same _ _ _ h.calls, by simpa using h.callsF, h.below.setCell (by simp) _, by simpa [World.setCell] using hs1, hs2⟩
  · intro i hi
    obtain ⟨Jb, a, b, c', d⟩ := h.fs i hi
    exact ⟨Jb, a, b, cell_set_other c' (fun e => by have := congrArg Addr.block e; simp only at this; omega), cell_set_other d (fun e => by have := congrArg Addr.block e; simp only at this; omega)⟩
  · rw [Nat.min_eq_right (by omega : n ≤ k + 1)]
    rw [Nat.min_eq_right hk] at l3
    exact ownsRow_setCell_below l3 (by show N + 1 < base; omega) _

theorem run_start {w W0 WR : World} {N n : Nat} {fs : List Value} {v59 : Value} (hb0 : Below N w W0) (hbr : Below W0.heap.size W0 WR) (hW3 : N + 3 ≤ W0.heap.size) (hHr : W0.heap.size < WR.heap.size)
    (hown : WR.ownsRow W0.heap.size 1 1 (.slice (some ⟨W0.heap.size, 0, none⟩) n n) n fs) (hfs : FsAt WR N W0.heap.size n fs) (h59 : WR.cell? ⟨N + 1 + 1, 59, none⟩ = some v59)
    (hlg : WR.cell? ⟨N, 0, none⟩ = some (.slice none 0 0)) (hlgf : WR.frozen? ⟨N, 0, none⟩ = false) (hcl : WR.cell? ⟨N + 1, 0, none⟩ = some (.int .i64 0)) (hclf : WR.frozen? ⟨N + 1, 0, none⟩ = false) :
    Run w N W0.heap.size n n n WR.heap.size 0 1 ((WR.setCell ⟨N + 1 + 1, 59, none⟩ (.slice (some ⟨W0.heap.size, 0, none⟩) n n)).setCell ⟨N + 1, 0, none⟩ (.int .i64 1)) := by
  have ne1 : ∀ (x : Nat) (o : Nat), x ≠ N + 1 → (⟨N + 1, 0, none⟩ : Addr) ≠ ⟨x, o, none⟩ := fun x o h e => h (congrArg Addr.block e).symm
  have ne2 : ∀ (x : Nat) (o : Nat), x ≠ N + 1 + 1 → (⟨N + 1 + 1, 59, none⟩ : Addr) ≠ ⟨x, o, none⟩ := fun x o h e => h (congrArg Addr.block e).symm
  refine ⟨cell_set_other (World.cell?_setCell_same _ _ _ h59) (ne1 _ _ (by omega)), ?_, by omega, ⟨.slice none 0 0, ?_, by simpa using hlgf, by simpa using World.ownsRow_nil _ _ _ _⟩, ?_, by simpa using hclf, ?_, by simp [World.setCell], by omega⟩
  · intro i hi
    obtain ⟨Jb, j1, j2, j3⟩ := hfs i hi
    have hlt : Jb < WR.heap.size := World.block_lt_of_cell? WR _ j3
    have hci := hown.cellAt i (by omega)
    rw [j2] at hci
    exact ⟨Jb, by omega, hlt, cell_set_other (cell_set_other hci (ne2 _ _ (by omega))) (ne1 _ _ (by omega)), cell_set_other (cell_set_other j3 (ne2 _ _ (by omega))) (ne1 _ _ (by omega))⟩
  · exact cell_set_other (cell_set_other hlg (ne2 _ _ (by omega))) (ne1 _ _ (by omega))
  · exact World.cell?_setCell_same _ _ _ (cell_set_other hcl (ne2 _ _ (by omega)))
  · exact ((hb0.trans (hbr.mono (by omega))).setCell (by show N ≤ N + 1 + 1; omega) _).setCell (by show N ≤ N + 1; omega) _

theorem back_start {w W0 WR W2 : World} {N n g cap : Nat} {fs : List Value} (hb0 : Below N w W0) (hbr : Below W0.heap.size W0 WR) (hW3 : N + 3 ≤ W0.heap.size) (hHr : W0.heap.size < WR.heap.size)
    (hfl : fs.length = n) (hfs : FsAt WR N W0.heap.size n fs)
    (hlg : WR.cell? ⟨N, 0, none⟩ = some (.slice none 0 0)) (hlgf : WR.frozen? ⟨N, 0, none⟩ = false) (hcl : WR.cell? ⟨N + 1, 0, none⟩ = some (.int .i64 0)) (hclf : WR.frozen? ⟨N + 1, 0, none⟩ = false)
    (y1 : W2.cell? ⟨N + 1 + 1, 59, none⟩ = some (.slice (some ⟨g, 0, none⟩) (n + 1) cap))
    (y2 : W2.ownsRow W0.heap.size 1 1 (.slice (some ⟨g, 0, none⟩) (n + 1) cap) (n + 1) (fs ++ [.func (.func 25) #[] #[.pointer (some ⟨N + 1, 0, none⟩)]]))
    (y3 : Kept (fun b => b = N + 1 + 1 ∨ some b = (Value.slice (some ⟨W0.heap.size, 0, none⟩) n n).ownBlock) (WR.setCell ⟨N + 1 + 1, 59, none⟩ (.slice (some ⟨W0.heap.size, 0, none⟩) n n)) W2) :
    Run w N g (n + 1) n cap W2.heap.size 0 0 W2 ∧ W2.cell? ⟨g, n, none⟩ = some (.func (.func 25) #[] #[.pointer (some ⟨N + 1, 0, none⟩)]) := by
  have ne2 : ∀ (x : Nat) (o : Nat), x ≠ N + 1 + 1 → (⟨N + 1 + 1, 59, none⟩ : Addr) ≠ ⟨x, o, none⟩ := fun x o h e => h (congrArg Addr.block e).symm
  have hS : ∀ x, x ≠ N + 1 + 1 → x ≠ W0.heap.size → ¬ (x = N + 1 + 1 ∨ some x = (Value.slice (some ⟨W0.heap.size, 0, none⟩) n n).ownBlock) := by
    intro x h1 h2; simp [Value.ownBlock]; omega
  have hsz : (WR.setCell ⟨N + 1 + 1, 59, none⟩ (.slice (some ⟨W0.heap.size, 0, none⟩) n n)).heap.size = WR.heap.size := by simp [World.setCell]
  have hsz2 := y3.size
  rw [hsz] at hsz2
  have hg := y2.lt g rfl
  refine ⟨⟨y1, ?_, by omega, ⟨.slice none 0 0, y3.cell (cell_set_other hlg (ne2 _ _ (by omega))) (hS _ (by show N ≠ _; omega) (by show N ≠ _; omega)), ?_, by simpa using World.ownsRow_nil _ _ _ _⟩, y3.cell (cell_set_other hcl (ne2 _ _ (by omega))) (hS _ (by show N + 1 ≠ _; omega) (by show N + 1 ≠ _; omega)), ?_, ?_, by omega, by omega⟩, ?_⟩
  · intro i hi
    obtain ⟨Jb, j1, j2, j3⟩ := hfs i hi
    have hlt : Jb < WR.heap.size := World.block_lt_of_cell? WR _ j3
    have hci := y2.cellAt i (by omega)
    rw [List.getElem?_append_left (by omega), j2] at hci
    exact ⟨Jb, by omega, by omega, hci, y3.cell (cell_set_other j3 (ne2 _ _ (by omega))) (hS _ (by show Jb ≠ _; omega) (by show Jb ≠ _; omega))⟩
  · rw [y3.frozen (p := ⟨N, 0, none⟩) (by rw [hsz]; show N < _; omega) (hS _ (by show N ≠ _; omega) (by show N ≠ _; omega))]
    simpa using hlgf
  · rw [y3.frozen (p := ⟨N + 1, 0, none⟩) (by rw [hsz]; show N + 1 < _; omega) (hS _ (by show N + 1 ≠ _; omega) (by show N + 1 ≠ _; omega))]
    simpa using hclf
  · refine ((hb0.trans (hbr.mono (by omega))).setCell (by show N ≤ N + 1 + 1; omega) _).trans (y3.below N (by rw [hsz]; omega) ?_)
    intro k hk
    exact hS _ (by omega) (by omega)
  · have hci := y2.cellAt n (by omega)
    rw [List.getElem?_append_right (by omega), hfl] at hci
    simpa using hci

/-- The cells of a slice of ints. -/
theorem ints_owns {w : World} {base n : Nat} {v : Value} (h : w.ownsRow base 3 1 v n ((List.range n).map fun (j : Nat) => .int .i64 (j : Int))) : ∃ a c, v = .slice a n c ∧ ∀ j, j < n → ∃ b, a = some ⟨b, 0, none⟩ ∧ w.cell? ⟨b, j, none⟩ = some (.int .i64 (j : Int)) := by
  obtain ⟨hl, h | ⟨g, cap, cur, rfl, hb, hg, hnc, hcm, hcs, ht⟩⟩ := h
  · obtain ⟨rfl, rfl⟩ := h
    exact ⟨none, 0, rfl, fun j h => absurd h (Nat.not_lt_zero _)⟩
  · refine ⟨_, _, rfl, fun j hj => ⟨g, rfl, ?_⟩⟩
    rw [cell_of_row w g j cur 3 (0, 0) hg]
    have : (cur.toList.take (n * 1))[j]? = some (.int .i64 (j : Int)) := by rw [ht]; simp [hj]
    rw [List.getElem?_take, if_pos (by omega)] at this
    simpa using this

theorem neq_self (a : Addr) (w : World) : (binOp .neq 148 (.pointer (some a)) (.pointer (some a))).run Yba.prog w = .ok (.bool false) w := by
  have hj : ∃ j, Yba.prog.info? 161 = some j := by
    have h : (Yba.prog.info? 161).isSome = true := by kernel_rfl
    exact Option.isSome_iff_exists.1 h
  obtain ⟨j, hi⟩ := hj
  have h : ∀ d : Nat, (Op.equalIn (d + 1) 148 (.pointer (some a)) (.pointer (some a))).run Yba.prog w = .ok true w := fun d => by
    simp [Op.equalIn, run_underlying Yba.underlying148, sizeOf, typeInfo, hi, run_sameAddr_same]
  simp only [binOp]
  simp [Op.equal, Op.maxDepth, h 9999]

end Go.Proofs.Ybulkebym.lawS6421CWhole
