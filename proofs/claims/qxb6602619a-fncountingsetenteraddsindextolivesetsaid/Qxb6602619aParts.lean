/- Seat b6602619a: the contract of zzCountingSetParts. -/
import Derived.Test.Qxb6602619aSet
namespace Go.Proofs.Qxb6602619a.Sets
open Go.ChangeShapes Go.WideShapes Go.ChangeAt Go.RowKit
open Reads
set_option linter.unusedVariables false

/-- A set as it lies in memory: its box at block 'cb', its N runs at block 'g'. -/
structure Holds (w : World) (cb g cap N : Nat) (gh : Int) (GF GL : Nat → Int) : Prop where
  runs : w.cell? ⟨cb, 0, none⟩ = some (.slice (some ⟨g, 0, none⟩) N cap)
  head : w.cell? ⟨cb, 1, none⟩ = some (.int .i64 gh)
  first : ∀ i, i < N → w.cell? ⟨g, i * 2, none⟩ = some (.int .i64 (GF i))
  last : ∀ i, i < N → w.cell? ⟨g, i * 2 + 1, none⟩ = some (.int .i64 (GL i))

theorem Holds.below {w w' : World} {cb g cap N : Nat} {gh : Int} {GF GL : Nat → Int} (h : Holds w cb g cap N gh GF GL) (hb : Below w.heap.size w w') : Holds w' cb g cap N gh GF GL :=
  ⟨(hb.cell (cell_lt h.runs)).trans h.runs, (hb.cell (cell_lt h.head)).trans h.head, fun i hi => (hb.cell (cell_lt (h.first i hi))).trans (h.first i hi), fun i hi => (hb.cell (cell_lt (h.last i hi))).trans (h.last i hi)⟩

set_option maxHeartbeats 1000000 in
theorem setParts (cb g cap N : Nat) (gh : Int) (GF GL : Nat → Int) (w : World) (hN : N ≤ 65537) (hH : Holds w cb g cap N gh GF GL) :
    Calls Try.prog 20 #[.pointer (some ⟨cb, 0, none⟩)] w fun e w' => e = .returned (.tuple #[.slice (some ⟨w.heap.size, 0, none⟩) N N, .slice (some ⟨w.heap.size + 1, 0, none⟩) N N, .int .i64 gh]) ∧
      Ints w' (some ⟨w.heap.size, 0, none⟩) N GF ∧ Ints w' (some ⟨w.heap.size + 1, 0, none⟩) N GL ∧ Below w.heap.size w w' := by
  have hmk := run_make_row' (P := Try.prog) 22 3 (.int .i64 0) 8 Try.underlying22 info3 rfl .i64 .i64 N (by omega) (by omega)
  have hcb : cb < w.heap.size := cell_lt hH.runs
  have c0 := hH.runs
  have HA := hide ((part_made w GF N).alloc (.cells (madeCells #[.int .i64 0] N) 3))
  have HC := hide (show ((w.alloc (.cells (madeCells #[.int .i64 0] N) 3)).alloc (.cells (madeCells #[.int .i64 0] N) 3)).rowIs (w.heap.size + 1) 3 N (Reads.part GL 0) by have := part_made (w.alloc (.cells (madeCells #[.int .i64 0] N) 3)) GL N; simpa using this)
  have HB := hide (show Below w.heap.size w ((w.alloc (.cells (madeCells #[.int .i64 0] N) 3)).alloc (.cells (madeCells #[.int .i64 0] N) 3)) from ((Below.refl _ _).alloc (Nat.le_refl _) _).alloc (by simp) _)
  have HH := hide hH
  clear hH
  go_enter Try.func20, Try.ntmps20
  go_wp2
  go_loopw [7] (fun i wr => ∃ k : Nat, k ≤ N ∧ i = .int .i64 k ∧ wr.rowIs w.heap.size 3 N (Reads.part GF k) ∧ wr.rowIs (w.heap.size + 1) 3 N (Reads.part GL k) ∧ Below w.heap.size w wr) (fun i _ => N - (intOf i).toNat)
  case atStart => exact ⟨0, Nat.zero_le _, rfl, unhide HA, unhide HC, unhide HB⟩
  case round =>
    obtain ⟨k, hk, rfl, hA, hC, hb⟩ := hrel
    have H2 := (unhide HH).below hb
    have q0 := H2.runs
    have q1 := H2.head
    by_cases hlt : k < N
    · have q2 := H2.first k hlt
      have q3 := H2.last k hlt
      have hgb : g < w.heap.size := cell_lt ((unhide HH).first k hlt)
      have hz' : (k : Int) < (N : Int) := by omega
      have r0 := hA.cell hlt
      have r1 := hC.cell hlt
      have f0 := hA.frozen k
      have f1 := hC.frozen k
      have RA := hide ((part_step hA).setOther (a := ⟨w.heap.size + 1, k, none⟩) (by simp) (.int .i64 (GL k)))
      have RC := hide (part_step (hC.setOther (a := ⟨w.heap.size, k, none⟩) (by simp) (.int .i64 (GF k))))
      have B := hide ((hb.setCell (p := ⟨w.heap.size, k, none⟩) (Nat.le_refl _) (.int .i64 (GF k))).setCell (p := ⟨w.heap.size + 1, k, none⟩) (Nat.le_succ _) (.int .i64 (GL k)))
      clear hA hC hb H2
      go_wp2
      go_roundw
      case rel => exact ⟨k + 1, by omega, by go_num, unhide RA, unhide RC, unhide B⟩
      case measure => simp [intOf]; omega
    · have HK := hide (show k = N by omega)
      have EA := hide (show Ints wr (some ⟨w.heap.size, 0, none⟩) N GF by rw [unhide HK] at hA; exact part_done hA)
      have EC := hide (show Ints wr (some ⟨w.heap.size + 1, 0, none⟩) N GL by rw [unhide HK] at hC; exact part_done hC)
      have hcb' : w.heap.size ≤ wr.heap.size := hb.size
      clear hA hC H2
      go_wp2
      go_quiet (fail)
      go_wp2
      go_ret3
      exact ⟨rfl, EA, EC, below_drewN hb _⟩
end Go.Proofs.Qxb6602619a.Sets
