/- Seat b6602619a: a set and its runs as they lie in memory while 'enter' works on them: laws outside the walk. -/
import Derived.Test.Qxb6602619aParts
import Derived.OneCell
import Derived.Laws.CopyRow
namespace Go.Proofs.Qxb6602619a.Sets
open Go.ChangeShapes Go.WideShapes Go.ChangeAt Go.RowKit
open Reads
set_option linter.unusedVariables false

/-- The cells of N runs, as a list. -/
def plist (F L : Nat → Int) (N : Nat) : List Value := (List.range (N * 2)).map (pairs F L)
/-- One number more at place n. -/
def snoc (F : Nat → Int) (n : Nat) (x : Int) : Nat → Int := fun i => if i < n then F i else x
/-- The number at place m turned. -/
def upd (F : Nat → Int) (m : Nat) (x : Int) : Nat → Int := fun i => if i = m then x else F i

theorem plist_length (F L : Nat → Int) (N : Nat) : (plist F L N).length = N * 2 := by simp [plist]
theorem plist_at (F L : Nat → Int) (N j : Nat) (h : j < N * 2) : (plist F L N)[j]? = some (pairs F L j) := by simp [plist, h]
theorem pairs_even (F L : Nat → Int) (i : Nat) : pairs F L (i * 2) = .int .i64 (F i) := by
  have e : i * 2 / 2 = i := by omega
  simp [pairs, e]
theorem pairs_odd (F L : Nat → Int) (i : Nat) : pairs F L (i * 2 + 1) = .int .i64 (L i) := by
  have e : (i * 2 + 1) / 2 = i := by omega
  have e2 : (i * 2 + 1) % 2 = 1 := by omega
  simp [pairs, e, e2]
theorem plist_zero (F L : Nat → Int) : plist F L 0 = [] := rfl

theorem plist_snoc (F L : Nat → Int) (n : Nat) (x y : Int) : plist F L n ++ [.int .i64 x, .int .i64 y] = plist (snoc F n x) (snoc L n y) (n + 1) := by
  unfold plist
  have e : (n + 1) * 2 = n * 2 + 1 + 1 := by omega
  rw [e, List.range_succ, List.range_succ, List.map_append, List.map_append]
  have h1 : List.map (pairs (snoc F n x) (snoc L n y)) (List.range (n * 2)) = List.map (pairs F L) (List.range (n * 2)) := by
    apply List.map_congr_left
    intro j hj
    have hj' : j / 2 < n := by have := List.mem_range.1 hj; omega
    simp [pairs, snoc, hj']
  rw [h1]
  simp [pairs_even, pairs_odd, snoc]

theorem plist_upd (F L : Nat → Int) (m : Nat) (x : Int) : (plist F L (m + 1)).set (m * 2 + 1) (.int .i64 x) = plist F (upd L m x) (m + 1) := by
  apply List.ext_getElem?
  intro j
  by_cases hj : j < (m + 1) * 2
  · rw [plist_at _ _ _ _ hj, List.getElem?_set]
    by_cases e : m * 2 + 1 = j
    · subst e
      simp [plist_length, hj, pairs_odd, upd]
    · rw [if_neg e, plist_at _ _ _ _ hj]
      congr 1
      unfold pairs
      by_cases h2 : j % 2 = 0
      · simp [h2]
      · have : j / 2 ≠ m := by omega
        simp [h2, upd, this]
  · rw [List.getElem?_eq_none (by rw [List.length_set, plist_length]; omega), List.getElem?_eq_none (by rw [plist_length]; omega)]

/-- The box at block 'cb', the row of the runs, which the call owns, at block 'g'. -/
structure Lies (w : World) (B cb g cap N : Nat) (gh : Int) (F L : Nat → Int) : Prop where
  box : w.heap[cb]? = some (.cells #[.slice (some ⟨g, 0, none⟩) N cap, .int .i64 gh] 42 (0, 0))
  own : w.ownsRow B 40 2 (.slice (some ⟨g, 0, none⟩) N cap) N (plist F L N)
  above : B ≤ cb

theorem own_block {w : World} {B g n c : Nat} {xs : List Value} (h : w.ownsRow B 40 2 (.slice (some ⟨g, 0, none⟩) n c) n xs) :
    ∃ cur, B ≤ g ∧ w.heap[g]? = some (.cells cur 40 (0, 0)) ∧ n ≤ c ∧ c ≤ maxLen ∧ cur.size = c * 2 ∧ cur.toList.take (n * 2) = xs := by
  rcases h.2 with ⟨h', _⟩ | ⟨g', cap', cur, h', hb, hg, hr⟩
  · simp at h'
  · simp only [Value.slice.injEq, Option.some.injEq, Addr.mk.injEq, and_true, true_and] at h'
    obtain ⟨rfl, rfl⟩ := h'
    exact ⟨cur, hb, hg, hr⟩

/-- The first k of what is owned. -/
theorem own_cut {w : World} {B g n c k : Nat} {xs : List Value} (h : w.ownsRow B 40 2 (.slice (some ⟨g, 0, none⟩) n c) n xs) (hk : k ≤ n) :
    w.ownsRow B 40 2 (.slice (some ⟨g, 0, none⟩) k c) k (xs.take (k * 2)) := by
  obtain ⟨cur, h1, h2, h3, h4, h5, h6⟩ := own_block h
  refine ⟨?_, .inr ⟨g, c, cur, rfl, h1, h2, by omega, h4, h5, ?_⟩⟩
  · rw [List.length_take, h.1]; omega
  · rw [← h6, List.take_take]; congr 1; omega

namespace Lies
variable {w : World} {B cb g cap N : Nat} {gh : Int} {F L : Nat → Int}

theorem cell0 (h : Lies w B cb g cap N gh F L) : w.cell? ⟨cb, 0, none⟩ = some (.slice (some ⟨g, 0, none⟩) N cap) := by simp [World.cell?, h.box]
theorem cell1 (h : Lies w B cb g cap N gh F L) : w.cell? ⟨cb, 1, none⟩ = some (.int .i64 gh) := by simp [World.cell?, h.box]
theorem free (h : Lies w B cb g cap N gh F L) (i : Nat) : w.frozen? ⟨cb, i, none⟩ = false := by simp [World.frozen?, h.box]
theorem cellF (h : Lies w B cb g cap N gh F L) (i : Nat) (hi : i < N) : w.cell? ⟨g, i * 2, none⟩ = some (.int .i64 (F i)) := by
  rw [h.own.cellAt _ (by omega), plist_at _ _ _ _ (by omega), pairs_even]
theorem cellL (h : Lies w B cb g cap N gh F L) (i : Nat) (hi : i < N) : w.cell? ⟨g, i * 2 + 1, none⟩ = some (.int .i64 (L i)) := by
  rw [h.own.cellAt _ (by omega), plist_at _ _ _ _ (by omega), pairs_odd]
theorem holds (h : Lies w B cb g cap N gh F L) : Holds w cb g cap N gh F L := ⟨h.cell0, h.cell1, h.cellF, h.cellL⟩
theorem ne (h : Lies w B cb g cap N gh F L) : g ≠ cb := by
  rintro rfl
  obtain ⟨cur, _, hg, _⟩ := own_block h.own
  rw [h.box] at hg
  simp at hg
theorem gabove (h : Lies w B cb g cap N gh F L) : B ≤ g := by obtain ⟨cur, hb, _⟩ := own_block h.own; exact hb
theorem drewN (h : Lies w B cb g cap N gh F L) (k : Nat) : Lies (w.drewN k) B cb g cap N gh F L := ⟨h.box, h.own, h.above⟩
theorem alloc (h : Lies w B cb g cap N gh F L) (o : Obj) : Lies (w.alloc o) B cb g cap N gh F L :=
  ⟨(Below.heap_alloc w o cb (lt_of_block h.box)).trans h.box, h.own.alloc o, h.above⟩

/-- The last run's last index turned. -/
theorem last {m : Nat} (h : Lies w B cb g cap (m + 1) gh F L) (x : Int) : Lies (w.setCell ⟨g, m * 2 + 1, none⟩ (.int .i64 x)) B cb g cap (m + 1) gh F (upd L m x) :=
  ⟨(heap_setCell_other w _ cb _ (fun e => h.ne e.symm)).trans h.box, by have := (h.own.stored (m * 2 + 1) (.int .i64 x)).1; rwa [plist_upd] at this, h.above⟩

/-- Behind an append: the box still as it was, the new row owned; then the box's first cell is turned. -/
theorem grown {w1 : World} {g' cap' N' : Nat} {F' L' : Nat → Int} (h : Lies w B cb g cap N gh F L) (hg : w.grownBy w1 (some g)) (own : w1.ownsRow B 40 2 (.slice (some ⟨g', 0, none⟩) N' cap') N' (plist F' L' N')) :
    Lies (w1.setCell ⟨cb, 0, none⟩ (.slice (some ⟨g', 0, none⟩) N' cap')) B cb g' cap' N' gh F' L' := by
  have hb : w1.heap[cb]? = some (.cells #[.slice (some ⟨g, 0, none⟩) N cap, .int .i64 gh] 42 (0, 0)) :=
    (hg.block cb (lt_of_block h.box) (fun e => h.ne (Option.some.inj e).symm)).trans h.box
  have hne : g' ≠ cb := by
    rintro rfl
    obtain ⟨cur, _, hg2, _⟩ := own_block own
    rw [hb] at hg2
    simp at hg2
  refine ⟨?_, ownsRow_setCell_other own (by simpa [Value.ownBlock] using hne) _, h.above⟩
  rw [heap_setCell_same w1 cb 0 _ 42 _ hb]
  rfl

theorem boxGrown {w1 : World} (h : Lies w B cb g cap N gh F L) (hg : w.grownBy w1 (some g)) : w1.cell? ⟨cb, 0, none⟩ = some (.slice (some ⟨g, 0, none⟩) N cap) ∧ w1.cell? ⟨cb, 1, none⟩ = some (.int .i64 gh) ∧ (∀ i, w1.frozen? ⟨cb, i, none⟩ = false) := by
  have hb : w1.heap[cb]? = some (.cells #[.slice (some ⟨g, 0, none⟩) N cap, .int .i64 gh] 42 (0, 0)) :=
    (hg.block cb (lt_of_block h.box) (fun e => h.ne (Option.some.inj e).symm)).trans h.box
  exact ⟨by simp [World.cell?, hb], by simp [World.cell?, hb], fun i => by simp [World.frozen?, hb]⟩

/-- The head turned. -/
theorem setHead (h : Lies w B cb g cap N gh F L) (k : Int) : Lies (w.setCell ⟨cb, 1, none⟩ (.int .i64 k)) B cb g cap N k F L := by
  refine ⟨?_, ownsRow_setCell_other h.own (by simpa [Value.ownBlock] using h.ne) _, h.above⟩
  rw [heap_setCell_same w cb 1 _ 42 _ h.box]
  rfl
end Lies

/-- 'append(runs, indexRun{p, q})', runs the call's own: room or not, the new value is a slice at the head of a row of the call's own. -/
theorem wpList_append_run {w : World} {ops : Array Oper} {rest : List Oper} {o : Oper} {a : Act} {Q : Exit → Act → World → Prop} (hgd : o.guard = none) (s x : Operand)
    (ho : o.op = .call { callee := .builtin .append, args := #[s, x], argTypes := #[38, 38] })
    (B g n cap : Nat) (xs : List Value) (hs : a.eval s = .slice (some ⟨g, 0, none⟩) n cap) (hown : w.ownsRow B 40 2 (.slice (some ⟨g, 0, none⟩) n cap) n xs)
    (ad : Addr) (p q : Int) (hx : a.eval x = .slice (some ad) 1 1) (hnews : ∀ j u, ([.int .i64 p, .int .i64 q] : List Value)[j]? = some u → w.cell? (ad.add j) = some u)
    (hn : n ≤ 65536) (hB : B ≤ w.heap.size)
    (h : ∀ g' cap' w', w'.ownsRow B 40 2 (.slice (some ⟨g', 0, none⟩) (n + 1) cap') (n + 1) (xs ++ [.int .i64 p, .int .i64 q]) → w.grownBy w' (some g) → wpList Try.prog ops Q rest (a.put o.dst (.slice (some ⟨g', 0, none⟩) (n + 1) cap')) w') :
    wpList Try.prog ops Q (o :: rest) a w := by
  obtain ⟨i, hi, hz0, hz1, hz2⟩ := info_parts info40
  refine wpList_append_own w hgd s x 38 ho B 40 i _ 2 16 Try.underlying38 hi hz0 hz1 hz2 rfl (by decide) _ n xs hs hown ad 1 1 [.int .i64 p, .int .i64 q] hx rfl hnews ?_ (by unfold maxLen; omega) (by omega) hB ?_
  · intro u hu; simp at hu; rcases hu with rfl | rfl <;> rfl
  · intro v' w' hown' hgrow hnil
    rcases hown'.2 with ⟨rfl, h0⟩ | ⟨g', cap', cur, rfl, _⟩
    · omega
    · exact h g' cap' w' hown' hgrow

theorem run_new (w : World) (p q : Int) (t : TypeId) : ∀ j u, ([.int .i64 p, .int .i64 q] : List Value)[j]? = some u → (w.alloc (.cells #[.int .i64 p, .int .i64 q] t)).cell? ((⟨w.heap.size, 0, none⟩ : Addr).add j) = some u := by
  intro j u hj
  match j, hj with
  | 0, hj => simp at hj; subst hj; simp [Addr.add]
  | 1, hj => simp at hj; subst hj; simp [Addr.add]

/-- A row of runs that is filled is owned. -/
theorem own_of_row {w : World} {B g n : Nat} {F L : Nat → Int} (h : w.rowIs g 40 (n * 2) (pairs F L)) (hB : B ≤ g) (hn : n ≤ maxLen) : w.ownsRow B 40 2 (.slice (some ⟨g, 0, none⟩) n n) n (plist F L n) := by
  obtain ⟨c, hc, hs, hcell⟩ := h
  refine ⟨plist_length F L n, .inr ⟨g, n, c, rfl, hB, hc, Nat.le_refl _, hn, hs, ?_⟩⟩
  apply List.ext_getElem?
  intro j
  by_cases hj : j < n * 2
  · rw [List.getElem?_take, if_pos hj, plist_at _ _ _ _ hj, Array.getElem?_toList]
    exact hcell j hj
  · rw [List.getElem?_eq_none (by simp; omega), List.getElem?_eq_none (by rw [plist_length]; omega)]
end Go.Proofs.Qxb6602619a.Sets
