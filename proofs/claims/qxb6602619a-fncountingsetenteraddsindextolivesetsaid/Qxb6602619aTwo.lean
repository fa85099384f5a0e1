/- Seat b6602619a: two rows of ints that a call builds side by side: laws outside the walk. -/
import Derived.Test.Qxb6602619aReads
import Derived.OwnWalk
import Derived.OneCell
namespace Go.Proofs.Qxb6602619a.Merge
open Go.ChangeShapes Go.WideShapes Go.ChangeAt Go.RowKit
open Reads
set_option linter.unusedVariables false

/-- The first k numbers, as cells. -/
def ilist (f : Nat → Int) (k : Nat) : List Value := (List.range k).map (fun i => .int .i64 (f i))
/-- One number more at place n. -/
def snoc (F : Nat → Int) (n : Nat) (x : Int) : Nat → Int := fun i => if i < n then F i else x
/-- The number at place m turned. -/
def upd (F : Nat → Int) (m : Nat) (x : Int) : Nat → Int := fun i => if i = m then x else F i

theorem ilist_length (f : Nat → Int) (k : Nat) : (ilist f k).length = k := by simp [ilist]
theorem ilist_at (f : Nat → Int) (k j : Nat) (h : j < k) : (ilist f k)[j]? = some (.int .i64 (f j)) := by simp [ilist, h]
theorem ilist_succ (f : Nat → Int) (k : Nat) : ilist f k ++ [.int .i64 (f k)] = ilist f (k + 1) := by
  unfold ilist; rw [List.range_succ, List.map_append]; rfl
theorem ilist_congr {f g : Nat → Int} {k : Nat} (h : ∀ i, i < k → f i = g i) : ilist f k = ilist g k := by
  unfold ilist
  apply List.map_congr_left
  intro j hj
  rw [h j (List.mem_range.1 hj)]
theorem ilist_snoc (f : Nat → Int) (k : Nat) (x : Int) : ilist f k ++ [.int .i64 x] = ilist (snoc f k x) (k + 1) := by
  rw [← ilist_succ]
  have h1 : ilist f k = ilist (snoc f k x) k := ilist_congr (fun i hi => by simp [snoc, hi])
  rw [h1]
  simp [snoc]
theorem ilist_upd (f : Nat → Int) (k m : Nat) (x : Int) : (ilist f k).set m (.int .i64 x) = ilist (upd f m x) k := by
  apply List.ext_getElem?
  intro j
  by_cases hj : j < k
  · rw [ilist_at _ _ _ hj, List.getElem?_set]
    by_cases e : m = j
    · subst e; simp [ilist_length, hj, upd]
    · rw [if_neg e, ilist_at _ _ _ hj]
      have e' : ¬ j = m := fun h => e h.symm
      simp [upd, e']
  · rw [List.getElem?_eq_none (by rw [List.length_set, ilist_length]; omega), List.getElem?_eq_none (by rw [ilist_length]; omega)]

/-- 'make([]int, 0, c)'. -/
theorem run_make0 (m : Nat) (h : m ≤ 65536) (w : World) :
    (Instr.makeSlice 22 (.int .i64 0) (.int .i64 ((m : Int) + 1))).run Try.prog w = .ok (.slice (some ⟨w.heap.size, 0, none⟩) 0 (m + 1)) (w.alloc (.cells (madeCells #[.int .i64 0] (m + 1)) 3)) := by
  obtain ⟨i, hi, hz0, hz1, hz2⟩ := info_parts info3
  have hr := run_make (P := Try.prog) w 22 3 i _ Try.underlying22 hi hz0 .i64 .i64 0 ((m : Int) + 1) (by omega) (by omega) (by rw [hz2]; omega) (by omega)
  have e : ((m : Int) + 1).toNat = m + 1 := by omega
  simp only [e, hz1, Nat.mul_one, Int.toNat_zero] at hr
  exact hr

/-- Two rows A, C of the call's own, k1 and k2 numbers in them; below the first of them nothing has turned since w0. -/
structure Two (w0 w : World) (A C cap k1 k2 : Nat) (f1 f2 : Nat → Int) : Prop where
  own1 : w.ownsRow w0.heap.size 3 1 (.slice (some ⟨A, 0, none⟩) k1 cap) k1 (ilist f1 k1)
  own2 : w.ownsRow w0.heap.size 3 1 (.slice (some ⟨C, 0, none⟩) k2 cap) k2 (ilist f2 k2)
  below : Below w0.heap.size w0 w
  ne : A ≠ C

theorem own_in {w : World} {B g n c : Nat} {xs : List Value} (h : w.ownsRow B 3 1 (.slice (some ⟨g, 0, none⟩) n c) n xs) : B ≤ g ∧ g < w.heap.size := by
  have := h.lt g rfl
  exact this

theorem two_start (w : World) (m : Nat) (f1 f2 : Nat → Int) (hm : m ≤ 65536) :
    Two w ((w.alloc (.cells (madeCells #[.int .i64 0] (m + 1)) 3)).alloc (.cells (madeCells #[.int .i64 0] (m + 1)) 3)) w.heap.size (w.heap.size + 1) (m + 1) 0 0 f1 f2 := by
  have o1 : (w.alloc (.cells (madeCells #[.int .i64 0] (m + 1)) 3)).ownsRow w.heap.size 3 1 (.slice (some ⟨w.heap.size, 0, none⟩) 0 (m + 1)) 0 [] :=
    World.ownsRow_made w _ (m + 1) (Nat.le_refl _) (by unfold maxLen; omega) (by rw [size_madeCells]; omega)
  have o2 := World.ownsRow_made (base := w.heap.size) (e := 3) (size := 1) (w.alloc (.cells (madeCells #[.int .i64 0] (m + 1)) 3)) (madeCells #[.int .i64 0] (m + 1)) (m + 1) (by simp) (by unfold maxLen; omega) (by rw [size_madeCells]; omega)
  have hs : (w.alloc (.cells (madeCells #[.int .i64 0] (m + 1)) 3)).heap.size = w.heap.size + 1 := by simp
  rw [hs] at o2
  exact ⟨o1.alloc _, o2, ((Below.refl _ _).alloc (Nat.le_refl _) _).alloc (by simp) _, by omega⟩

namespace Two
variable {w0 w w1 : World} {A C cap k1 k2 : Nat} {f1 f2 f' : Nat → Int}

theorem size (h : Two w0 w A C cap k1 k2 f1 f2) : w0.heap.size ≤ w.heap.size := h.below.size
theorem drewN (h : Two w0 w A C cap k1 k2 f1 f2) (n : Nat) : Two w0 (w.drewN n) A C cap k1 k2 f1 f2 := ⟨h.own1, h.own2, below_drewN h.below n, h.ne⟩

/-- Behind an append to the first row. -/
theorem app1 (h : Two w0 w A C cap k1 k2 f1 f2) {o : Obj} {k : Nat} (hg : ((w.alloc o).drewN k).grownBy w1 (some A)) {k1' : Nat}
    (own : w1.ownsRow w0.heap.size 3 1 (.slice (some ⟨A, 0, none⟩) k1' cap) k1' (ilist f' k1')) : Two w0 w1 A C cap k1' k2 f' f2 :=
  ⟨own, World.ownsRow.kept (w := (w.alloc o).drewN k) (h.own2.alloc o) hg (.inr (by simpa [Value.ownBlock] using fun e : C = A => h.ne e.symm)),
    (below_drewN (h.below.alloc h.below.size o) k).grown hg (by show _ ≤ (w.alloc o).heap.size; have := h.below.size; simp; omega) (fun j e => by cases e; exact (own_in h.own1).1), h.ne⟩
/-- .. to the second. -/
theorem app2 (h : Two w0 w A C cap k1 k2 f1 f2) {o : Obj} {k : Nat} (hg : ((w.alloc o).drewN k).grownBy w1 (some C)) {k2' : Nat}
    (own : w1.ownsRow w0.heap.size 3 1 (.slice (some ⟨C, 0, none⟩) k2' cap) k2' (ilist f' k2')) : Two w0 w1 A C cap k1 k2' f1 f' :=
  ⟨World.ownsRow.kept (w := (w.alloc o).drewN k) (h.own1.alloc o) hg (.inr (by simpa [Value.ownBlock] using h.ne)), own,
    (below_drewN (h.below.alloc h.below.size o) k).grown hg (by show _ ≤ (w.alloc o).heap.size; have := h.below.size; simp; omega) (fun j e => by cases e; exact (own_in h.own2).1), h.ne⟩
/-- A number of the second row turned. -/
theorem set2 (h : Two w0 w A C cap k1 k2 f1 f2) (j : Nat) (x : Int) : Two w0 (w.setCell ⟨C, j, none⟩ (.int .i64 x)) A C cap k1 k2 f1 (upd f2 j x) :=
  ⟨ownsRow_setCell_other h.own1 (by simpa [Value.ownBlock] using h.ne) _, by have := (h.own2.stored j (.int .i64 x)).1; rwa [ilist_upd] at this,
    h.below.setCell (own_in h.own2).1 _, h.ne⟩
theorem cell1 (h : Two w0 w A C cap k1 k2 f1 f2) (j : Nat) (hj : j < k1) : w.cell? ⟨A, j, none⟩ = some (.int .i64 (f1 j)) := by
  rw [h.own1.cellAt j (by omega), ilist_at _ _ _ hj]
theorem cell2 (h : Two w0 w A C cap k1 k2 f1 f2) (j : Nat) (hj : j < k2) : w.cell? ⟨C, j, none⟩ = some (.int .i64 (f2 j)) := by
  rw [h.own2.cellAt j (by omega), ilist_at _ _ _ hj]
theorem ints1 (h : Two w0 w A C cap k1 k2 f1 f2) : Ints w (some ⟨A, 0, none⟩) k1 f1 := .inr ⟨A, 0, rfl, fun k hk => by simpa using h.cell1 k hk⟩
theorem ints2 (h : Two w0 w A C cap k1 k2 f1 f2) : Ints w (some ⟨C, 0, none⟩) k2 f2 := .inr ⟨C, 0, rfl, fun k hk => by simpa using h.cell2 k hk⟩
end Two

/-- 'append(row, y)' within the capacity. -/
theorem wpList_append_int {w : World} {ops : Array Oper} {rest : List Oper} {o : Oper} {a : Act} {Q : Exit → Act → World → Prop} (hgd : o.guard = none) (s x : Operand)
    (ho : o.op = Op.call { callee := Callee.builtin Builtin.append, args := #[s, x], argTypes := #[22, 22] })
    (B g k cap : Nat) (f f' : Nat → Int) (hs : a.eval s = .slice (some ⟨g, 0, none⟩) k cap) (hown : w.ownsRow B 3 1 (.slice (some ⟨g, 0, none⟩) k cap) k (ilist f k))
    (ad : Addr) (y : Int) (hx : a.eval x = .slice (some ad) 1 1) (hnew : w.cell? ad = some (.int .i64 y)) (hf : ilist f k ++ [.int .i64 y] = ilist f' (k + 1)) (hk : k + 1 ≤ cap)
    (h : ∀ w', w'.ownsRow B 3 1 (.slice (some ⟨g, 0, none⟩) (k + 1) cap) (k + 1) (ilist f' (k + 1)) → w.grownBy w' (some g) → wpList Try.prog ops Q rest (a.put o.dst (.slice (some ⟨g, 0, none⟩) (k + 1) cap)) w') :
    wpList Try.prog ops Q (o :: rest) a w := by
  obtain ⟨i, hi, hz0, hz1, hz2⟩ := info_parts info3
  refine wpList_append_fits w hgd s x 22 ho B 3 i 1 Try.underlying22 hi hz1 g k cap _ hs hown ad 1 1 [.int .i64 y] hx rfl ?_ ?_ hk ?_
  · intro j u hj
    match j, hj with
    | 0, hj =>
      simp at hj; subst hj
      have e : ad.add 0 = ad := by unfold Addr.add; split <;> simp_all
      rw [e]; exact hnew
  · intro u hu; simp at hu; subst hu; rfl
  · intro w' o1 g1
    rw [hf] at o1
    exact h w' o1 g1

theorem new_cell (w : World) (y : Int) (t : TypeId) : (w.alloc (.cells #[.int .i64 y] t)).cell? ⟨w.heap.size, 0, none⟩ = some (.int .i64 y) := by simp
end Go.Proofs.Qxb6602619a.Merge
