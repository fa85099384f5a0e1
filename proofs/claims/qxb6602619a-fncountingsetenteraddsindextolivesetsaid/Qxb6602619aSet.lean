/- Seat b6602619a: contracts of the shim: zzCountingSetOf lays a set, zzCountingSetParts reads it off. -/
import Derived.Test.Qxb6602619aReads
import Derived.OwnWalk
namespace Go.Proofs.Qxb6602619a.Sets
open Go.ChangeShapes Go.WideShapes Go.ChangeAt Go.RowKit
open Reads
set_option linter.unusedVariables false

theorem info40 : (Try.prog.info? 40).map (fun i => (i.zero, i.size, i.bytes)) = some (some (.agg #[.int .i64 0, .int .i64 0]), 2, 16) := by kernel_rfl

/-- 'make([]indexRun, n)'. -/
theorem run_make40 (n : Nat) (h : n ≤ 65536) (w : World) :
    (Instr.makeSlice 38 (.int .i64 (n : Int)) (.int .i64 (n : Int))).run Try.prog w = .ok (.slice (some ⟨w.heap.size, 0, none⟩) n n) (w.alloc (.cells (madeCells #[.int .i64 0, .int .i64 0] (n * 2)) 40)) := by
  obtain ⟨i, hi, hz0, hz1, hz2⟩ := info_parts info40
  have hr := run_make (P := Try.prog) w 38 40 i _ Try.underlying38 hi hz0 .i64 .i64 n n (by omega) (Int.le_refl _) (by rw [hz2]; omega) (by omega)
  simp only [Int.toNat_natCast, hz1] at hr
  exact hr

/-- The cells of the runs (F i, L i). -/
def pairs (F L : Nat → Int) (j : Nat) : Value := if j % 2 = 0 then .int .i64 (F (j / 2)) else .int .i64 (L (j / 2))
/-- .. of the first k of them, zeros behind. -/
def pairsTo (F L : Nat → Int) (k : Nat) (j : Nat) : Value := if j < k * 2 then pairs F L j else .int .i64 0

theorem pairs_made (w : World) (F L : Nat → Int) (n : Nat) : (w.alloc (.cells (madeCells #[.int .i64 0, .int .i64 0] (n * 2)) 40)).rowIs w.heap.size 40 (n * 2) (pairsTo F L 0) := by
  refine ⟨_, Deep.blk_alloc_new _ _, size_madeCells _ _, fun i hi => ?_⟩
  have h2 : i % 2 = 0 ∨ i % 2 = 1 := by omega
  rcases h2 with h2 | h2 <;> simp [madeCells, hi, pairsTo, h2]

theorem pairs_step {w : World} {b n k : Nat} {F L : Nat → Int} (h : w.rowIs b 40 (n * 2) (pairsTo F L k)) :
    ((w.setCell ⟨b, k * 2, none⟩ (.int .i64 (F k))).setCell ⟨b, k * 2 + 1, none⟩ (.int .i64 (L k))).rowIs b 40 (n * 2) (pairsTo F L (k + 1)) := by
  refine ((h.set (k * 2) (.int .i64 (F k))).set (k * 2 + 1) (.int .i64 (L k))).congr ?_
  intro j hj
  by_cases e1 : j = k * 2 + 1
  · subst e1
    have : (k * 2 + 1) / 2 = k := by omega
    have h2 : (k * 2 + 1) % 2 = 1 := by omega
    have h3 : k * 2 + 1 < (k + 1) * 2 := by omega
    simp [pairsTo, pairs, this, h2, h3]
  · by_cases e2 : j = k * 2
    · subst e2
      have : (k * 2) / 2 = k := by omega
      have h3 : k * 2 < (k + 1) * 2 := by omega
      simp [pairsTo, pairs, this, h3]
    · simp only [e1, e2, if_false]
      unfold pairsTo
      by_cases l : j < k * 2
      · rw [if_pos l, if_pos (by omega)]
      · rw [if_neg l, if_neg (by omega)]

/-- The set's own box, laid behind the filled row. -/
theorem boxed {w wr : World} {n k : Nat} {h : Int} {F L : Nat → Int} (hr : wr.rowIs w.heap.size 40 (n * 2) (pairsTo F L k)) (hb : Below w.heap.size w wr) (hk : k = n) :
    ∃ cb, Ending.returned (.pointer (some ⟨wr.heap.size, 0, none⟩)) = Ending.returned (.pointer (some ⟨cb, 0, none⟩)) ∧ w.heap.size < cb ∧
      (wr.alloc (.cells #[.slice (some ⟨w.heap.size, 0, none⟩) n n, .int .i64 h] 42)).heap[cb]? = some (.cells #[.slice (some ⟨w.heap.size, 0, none⟩) n n, .int .i64 h] 42 (0, 0)) ∧
      (wr.alloc (.cells #[.slice (some ⟨w.heap.size, 0, none⟩) n n, .int .i64 h] 42)).rowIs w.heap.size 40 (n * 2) (pairs F L) ∧ Below w.heap.size w (wr.alloc (.cells #[.slice (some ⟨w.heap.size, 0, none⟩) n n, .int .i64 h] 42)) := by
  subst hk
  refine ⟨wr.heap.size, rfl, hr.lt, Deep.blk_alloc_new _ _, (hr.alloc _).congr ?_, hb.alloc (Nat.le_of_lt hr.lt) _⟩
  intro i hi
  simp [pairsTo, hi]

set_option maxHeartbeats 1000000 in
theorem setOf (a0 : Option Addr) (n c0 : Nat) (a1 : Option Addr) (c1 : Nat) (h : Int) (F L : Nat → Int) (w : World) (hn : n ≤ 65536) (h0 : Ints w a0 n F) (h1 : Ints w a1 n L) :
    Calls Try.prog 18 #[.slice a0 n c0, .slice a1 n c1, .int .i64 h] w fun e w' => ∃ cb, e = .returned (.pointer (some ⟨cb, 0, none⟩)) ∧ w.heap.size < cb ∧
      w'.heap[cb]? = some (.cells #[.slice (some ⟨w.heap.size, 0, none⟩) n n, .int .i64 h] 42 (0, 0)) ∧ w'.rowIs w.heap.size 40 (n * 2) (pairs F L) ∧ Below w.heap.size w w' := by
  have hmk := run_make40 n hn
  have HS := hide (pairs_made w F L n)
  have HB := hide (show Below w.heap.size w (w.alloc (.cells (madeCells #[.int .i64 0, .int .i64 0] (n * 2)) 40)) from (Below.refl _ _).alloc (Nat.le_refl _) _)
  by_cases hz : n ≤ 0
  · go_enter Try.func18, Try.ntmps18
    go_wp2
    go_loopw [8] (fun i wr => i = .int .i64 0 ∧ wr.rowIs w.heap.size 40 (n * 2) (pairsTo F L 0) ∧ Below w.heap.size w wr) (fun i _ => 0)
    case atStart => exact ⟨rfl, unhide HS, unhide HB⟩
    case round =>
      obtain ⟨rfl, hr, hb⟩ := hrel
      go_wp2
      go_ret
      exact boxed hr hb (by omega)
  rcases h0 with h0 | ⟨b0, o0, rfl, hc0⟩
  · omega
  rcases h1 with h1 | ⟨b1, o1, rfl, hc1⟩
  · omega
  go_enter Try.func18, Try.ntmps18
  go_wp2
  go_loopw [8] (fun i wr => ∃ k : Nat, k ≤ n ∧ i = .int .i64 k ∧ wr.rowIs w.heap.size 40 (n * 2) (pairsTo F L k) ∧ Below w.heap.size w wr) (fun i _ => n - (intOf i).toNat)
  case atStart => exact ⟨0, Nat.zero_le _, rfl, unhide HS, unhide HB⟩
  case round =>
    obtain ⟨k, hk, rfl, hr, hb⟩ := hrel
    by_cases hlt : k < n
    · have k0 : wr.cell? ⟨b0, o0 + k, none⟩ = some (.int .i64 (F k)) := (hb.cell (cell_lt (hc0 k hlt))).trans (hc0 k hlt)
      have k1 : wr.cell? ⟨b1, o1 + k, none⟩ = some (.int .i64 (L k)) := (hb.cell (cell_lt (hc1 k hlt))).trans (hc1 k hlt)
      have hz' : (k : Int) < (n : Int) := by omega
      have r0 := hr.cell (i := k * 2) (by omega)
      have r1 := hr.cell (i := k * 2 + 1) (by omega)
      have f0 := hr.frozen (k * 2)
      have f1 := hr.frozen (k * 2 + 1)
      have R := hide (pairs_step hr)
      have B := hide ((hb.setCell (p := ⟨w.heap.size, k * 2, none⟩) (Nat.le_refl _) (.int .i64 (F k))).setCell (p := ⟨w.heap.size, k * 2 + 1, none⟩) (Nat.le_refl _) (.int .i64 (L k)))
      clear hr hb
      go_wp2
      go_region
      go_wp2
      go_roundw
      case rel => exact ⟨k + 1, by omega, by go_num, (unhide R).drew, (unhide B).drew⟩
      case measure => simp [intOf]; omega
    · have HK := hide (show k = n by omega)
      go_wp2
      go_ret
      exact boxed hr hb (unhide HK)
end Go.Proofs.Qxb6602619a.Sets
