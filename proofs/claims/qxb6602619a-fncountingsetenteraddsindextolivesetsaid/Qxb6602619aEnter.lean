/- Seat b6602619a: (*countingSet).enter, way by way. -/
import Derived.Test.Qxb6602619aLies
namespace Go.Proofs.Qxb6602619a.Sets
open Go.ChangeShapes Go.WideShapes Go.ChangeAt Go.RowKit
open Reads
set_option linter.unusedVariables false

theorem one_run (x : Int) : plist (fun _ => x) (fun _ => x) 1 = [] ++ [.int .i64 x, .int .i64 x] := by
  have h := plist_snoc (fun _ => x) (fun _ => x) 0 x x
  rw [plist_zero] at h
  rw [h]
  have e : snoc (fun _ => x) 0 x = fun _ => x := by funext i; simp [snoc]
  rw [e]

theorem none_step {w w1 : World} {B cb g n k g' cap' : Nat} {x : Int} {F L : Nat → Int} (hBh : B ≤ w.heap.size) (HL : Hid (Lies w B cb g n n n F L))
    (hown : w1.ownsRow B 40 2 (.slice (some ⟨g', 0, none⟩) (0 + 1) cap') (0 + 1) ([] ++ [.int .i64 x, .int .i64 x]))
    (hgrow : ((w.alloc (.cells #[.int .i64 x, .int .i64 x] 40)).drewN k).grownBy w1 (some g)) :
    w1.cell? ⟨cb, 0, none⟩ = some (.slice (some ⟨g, 0, none⟩) n n) ∧ w1.cell? ⟨cb, 1, none⟩ = some (.int .i64 n) ∧ (∀ i, w1.frozen? ⟨cb, i, none⟩ = false) ∧
    Hid (Holds ((w1.setCell ⟨cb, 0, none⟩ (.slice (some ⟨g', 0, none⟩) 1 cap')).setCell ⟨cb, 1, none⟩ (.int .i64 0)) cb g' cap' 1 0 (fun _ => x) (fun _ => x)) ∧
    Hid (Below B w ((w1.setCell ⟨cb, 0, none⟩ (.slice (some ⟨g', 0, none⟩) 1 cap')).setCell ⟨cb, 1, none⟩ (.int .i64 0))) := by
  have LA := ((unhide HL).alloc (.cells #[.int .i64 x, .int .i64 x] 40)).drewN k
  obtain ⟨d0, d1, d2⟩ := LA.boxGrown hgrow
  refine ⟨d0, d1, d2, ?_, ?_⟩
  · exact ((LA.grown hgrow (show w1.ownsRow B 40 2 (.slice (some ⟨g', 0, none⟩) 1 cap') 1 (plist (fun _ => x) (fun _ => x) 1) by rw [one_run]; exact hown)).setHead 0).holds
  · exact (((below_drewN ((Below.refl B w).alloc hBh (.cells #[.int .i64 x, .int .i64 x] 40)) k).grown hgrow (by show B ≤ (w.alloc _).heap.size; simp; omega) (fun k e => by cases e; exact (unhide HL).gabove)).setCell (unhide HL).above _).setCell (unhide HL).above _

set_option maxHeartbeats 1000000 in
/-- The set holds nothing: it is the one run from x to x. -/
theorem enter_none (B cb g n : Nat) (x : Int) (u : Bool) (F L : Nat → Int) (w : World) (hn : n ≤ 65536) (hL : Lies w B cb g n n n F L) :
    Calls Try.prog 19 #[.pointer (some ⟨cb, 0, none⟩), .int .i64 x, .bool u] w fun e w' => e = .returned (.tuple #[]) ∧ (∃ g' cap', Holds w' cb g' cap' 1 0 (fun _ => x) (fun _ => x)) ∧ Below B w w' := by
  have c0 := hL.cell0
  have c1 := hL.cell1
  have f0 := hL.free
  have HL := hide hL
  have hBh : B ≤ w.heap.size := Nat.le_of_lt (Nat.lt_of_le_of_lt hL.above (lt_of_block hL.box))
  clear hL
  go_enter Try.func19, Try.ntmps19
  go_wp2
  go_quiet (fail)
  go_wp2_with (at_builtin; refine wpList_append_run rfl (.tmp 23) (.tmp 27) rfl B g 0 n [] rfl (by exact own_cut ((unhide HL).own.alloc _) (Nat.zero_le _)) ⟨w.heap.size, 0, none⟩ x x rfl (by exact run_new w x x 40) (Nat.zero_le _) (by simp; omega) ?_; intro g' cap' w1 hown hgrow; obtain ⟨d0, d1, d2, R, BB⟩ := none_step hBh HL hown hgrow; clear hown hgrow)
  exact bodyPost_ret (v := .tuple #[]) (by simp [results, Try.results19, go_sem]) rfl ⟨rfl, ⟨g', cap', unhide R⟩, unhide BB⟩

set_option maxHeartbeats 1000000 in
/-- The newest index is held already: nothing turns. -/
theorem enter_same (B cb g m h : Nat) (x : Int) (u : Bool) (F L : Nat → Int) (w : World) (hn : m + 1 ≤ 65536) (hh : h ≤ m) (hx : L m = x) (hL : Lies w B cb g (m + 1) (m + 1) h F L) :
    Calls Try.prog 19 #[.pointer (some ⟨cb, 0, none⟩), .int .i64 x, .bool u] w fun e w' => e = .returned (.tuple #[]) ∧ Holds w' cb g (m + 1) (m + 1) h F L ∧ Below B w w' := by
  have c0 := hL.cell0
  have c1 := hL.cell1
  have c2 := hL.cellL m (by omega)
  have hxb : (L m == x) = true := beq_iff_eq.2 hx
  have hhb : ((h : Int) == (m : Int) + 1) = false := beq_eq_false_iff_ne.2 (by omega)
  have HL := hide hL
  clear hL hx
  go_enter Try.func19, Try.ntmps19
  go_wp2
  go_quiet (fail)
  go_wp2
  go_quiet (fail)
  go_wp2
  go_end0
  exact ⟨rfl, ((unhide HL).drewN _).holds, below_drewN (Below.refl _ _) _⟩

theorem last_step {w : World} {B cb g m k : Nat} {h x : Int} {F L : Nat → Int} (HL : Hid (Lies w B cb g (m + 1) (m + 1) h F L)) :
    Holds ((w.drewN k).setCell ⟨g, m * 2 + 1, none⟩ (.int .i64 x)) cb g (m + 1) (m + 1) h F (upd L m x) ∧
    Below B w ((w.drewN k).setCell ⟨g, m * 2 + 1, none⟩ (.int .i64 x)) := by
  have h := unhide HL
  exact ⟨((h.drewN k).last x).holds, (below_drewN (Below.refl B w) k).setCell h.gabove _⟩

set_option maxHeartbeats 1000000 in
/-- The newest run goes on to x. -/
theorem enter_last (B cb g m h : Nat) (x : Int) (u : Bool) (F L : Nat → Int) (w : World) (hn : m + 1 ≤ 65536) (hh : h ≤ m) (x0 : -9223372036854775808 ≤ x) (x1 : x ≤ 9223372036854775807) (hx : L m < x) (l0 : -9223372036854775808 ≤ L m)
    (hu : u = true ∨ L m = x - 1) (hL : Lies w B cb g (m + 1) (m + 1) h F L) :
    Calls Try.prog 19 #[.pointer (some ⟨cb, 0, none⟩), .int .i64 x, .bool u] w fun e w' => e = .returned (.tuple #[]) ∧ Holds w' cb g (m + 1) (m + 1) h F (upd L m x) ∧ Below B w w' := by
  have c0 := hL.cell0
  have c1 := hL.cell1
  have c2 := hL.cellL m (by omega)
  have f2 := hL.own.frozenAt (m * 2 + 1)
  have hxb : (L m == x) = false := beq_eq_false_iff_ne.2 (by omega)
  have hhb : ((h : Int) == (m : Int) + 1) = false := beq_eq_false_iff_ne.2 (by omega)
  have HL := hide hL
  clear hL
  cases u
  · have hub : (L m == x - 1) = true := beq_iff_eq.2 (by simpa using hu)
    clear hu
    go_enter Try.func19, Try.ntmps19
    go_wp2
    go_quiet (fail)
    go_wp2
    go_quiet (fail)
    go_wp2
    go_end0
    exact ⟨rfl, last_step HL⟩
  · go_enter Try.func19, Try.ntmps19
    go_wp2
    go_quiet (fail)
    go_wp2
    go_quiet (fail)
    go_wp2
    go_end0
    exact ⟨rfl, last_step HL⟩

theorem more_step {w w1 : World} {B cb g N cap k g' cap' : Nat} {h x : Int} {F L : Nat → Int} (hBh : B ≤ w.heap.size) (HL : Hid (Lies w B cb g cap N h F L))
    (hown : w1.ownsRow B 40 2 (.slice (some ⟨g', 0, none⟩) (N + 1) cap') (N + 1) (plist F L N ++ [.int .i64 x, .int .i64 x]))
    (hgrow : ((w.alloc (.cells #[.int .i64 x, .int .i64 x] 40)).drewN k).grownBy w1 (some g)) :
    w1.cell? ⟨cb, 0, none⟩ = some (.slice (some ⟨g, 0, none⟩) N cap) ∧ (∀ i, w1.frozen? ⟨cb, i, none⟩ = false) ∧
    Hid (Holds (w1.setCell ⟨cb, 0, none⟩ (.slice (some ⟨g', 0, none⟩) (N + 1) cap')) cb g' cap' (N + 1) h (snoc F N x) (snoc L N x)) ∧
    Hid (Below B w (w1.setCell ⟨cb, 0, none⟩ (.slice (some ⟨g', 0, none⟩) (N + 1) cap'))) := by
  have LA := ((unhide HL).alloc (.cells #[.int .i64 x, .int .i64 x] 40)).drewN k
  obtain ⟨d0, d1, d2⟩ := LA.boxGrown hgrow
  refine ⟨d0, d2, ?_, ?_⟩
  · exact (LA.grown hgrow (by rw [← plist_snoc]; exact hown)).holds
  · exact ((below_drewN ((Below.refl B w).alloc hBh (.cells #[.int .i64 x, .int .i64 x] 40)) k).grown hgrow (by show B ≤ (w.alloc _).heap.size; simp; omega) (fun k e => by cases e; exact (unhide HL).gabove)).setCell (unhide HL).above _

set_option maxHeartbeats 1000000 in
/-- A new run at the end; the stopped runs are no more than half. -/
theorem enter_more (B cb g m h : Nat) (x : Int) (F L : Nat → Int) (w : World) (hn : m + 1 ≤ 65536) (hh : h ≤ m) (x0 : -9223372036854775808 ≤ x) (x1 : x ≤ 9223372036854775807) (hx : L m < x) (l0 : -9223372036854775808 ≤ L m)
    (hu : L m ≠ x - 1) (hhalf : h ≤ (m + 1) / 2) (hL : Lies w B cb g (m + 1) (m + 1) h F L) :
    Calls Try.prog 19 #[.pointer (some ⟨cb, 0, none⟩), .int .i64 x, .bool false] w fun e w' => e = .returned (.tuple #[]) ∧ (∃ g' cap', Holds w' cb g' cap' (m + 1 + 1) h (snoc F (m + 1) x) (snoc L (m + 1) x)) ∧ Below B w w' := by
  have c0 := hL.cell0
  have c1 := hL.cell1
  have c2 := hL.cellL m (by omega)
  have hxb : (L m == x) = false := beq_eq_false_iff_ne.2 (by omega)
  have hhb : ((h : Int) == (m : Int) + 1) = false := beq_eq_false_iff_ne.2 (by omega)
  have hub : (L m == x - 1) = false := beq_eq_false_iff_ne.2 hu
  have hhi : (h : Int) ≤ ((m : Int) + 1) / 2 := by omega
  have HL := hide hL
  have hBh : B ≤ w.heap.size := Nat.le_of_lt (Nat.lt_of_le_of_lt hL.above (lt_of_block hL.box))
  clear hL hu hhalf
  go_enter Try.func19, Try.ntmps19
  go_wp2
  go_quiet (fail)
  go_wp2
  go_quiet (fail)
  go_wp2
  go_quiet (fail)
  go_wp2_with (at_builtin; refine wpList_append_run rfl (.tmp 84) (.tmp 88) rfl B g (m + 1) (m + 1) (plist F L (m + 1)) rfl (by exact (unhide HL).own.alloc _) ⟨w.heap.size, 0, none⟩ x x rfl (by exact run_new w x x 40) hn (by simp; omega) ?_; intro g' cap' w1 hown hgrow; obtain ⟨d0, d2, R, BB⟩ := more_step hBh HL hown hgrow; clear hown hgrow)
  go_end0
  exact ⟨rfl, ⟨g', cap', unhide R⟩, unhide BB⟩
end Go.Proofs.Qxb6602619a.Sets
