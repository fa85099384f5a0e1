/- Seat b6602619a: zzInsertMerge at no run at all; and its contract in one word. -/
import Derived.Test.Qxb6602619aMerge
namespace Go.Proofs.Qxb6602619a.Merge
open Go.ChangeShapes Go.WideShapes Go.ChangeAt Go.RowKit
open Reads
set_option linter.unusedVariables false

set_option maxRecDepth 100000 in
set_option maxHeartbeats 2000000 in
theorem merge_zero (a0 a1 : Option Addr) (c0 c1 m : Nat) (lo x : Int) (fs ls : Nat → Int) (w : World) (hm : m ≤ 65536) (hz : m ≤ 0) (AF AL : Nat → Int) (HAF : Hid (ilist fs m ++ [.int .i64 lo] = ilist AF (m + 1))) (HAL : Hid (ilist ls m ++ [.int .i64 x] = ilist AL (m + 1))) :
    Calls Try.prog 10 #[.slice a0 m c0, .slice a1 m c1, .int .i64 lo, .int .i64 x] w fun e w' => Out w (m + 1) AF AL e w' := by
  have hmk := run_make0 m hm
  have HS := hide (two_start w m fs ls hm)
  have hS2 := fun w5 : World => two_start w5 m AF AL hm
  have HS2 := hide hS2
  clear hS2
  go_enter Try.func10, Try.ntmps10
  go_wp2
  go_loopw [11, 12, 13, 14] (fun v u p i wr => ∃ k : Nat, k ≤ m ∧ i = .int .i64 k ∧ p = .bool false ∧ v = .slice (some ⟨w.heap.size, 0, none⟩) k (m + 1) ∧ u = .slice (some ⟨w.heap.size + 1, 0, none⟩) k (m + 1) ∧
      Two w wr w.heap.size (w.heap.size + 1) (m + 1) k k fs ls) (fun _ _ _ i _ => m - (intOf i).toNat)
  case atStart => exact ⟨0, Nat.zero_le _, rfl, rfl, rfl, rfl, unhide HS⟩
  case round =>
    obtain ⟨k, hk, rfl, rfl, rfl, rfl, hT⟩ := hrel
    by_cases hlt : k < m
    · exact absurd hlt (by omega)
    · have HT := hide hT
      have e : k = m := by omega
      clear hT hk hlt
      subst e
      go_wp2_with (first | (at_builtin; refine wpList_append_int rfl (.tmp 66) (.tmp 68) rfl w.heap.size w.heap.size k (k + 1) fs AF rfl (by exact (unhide HT).own1.alloc _) ⟨wr.heap.size, 0, none⟩ lo rfl (by exact new_cell wr lo 3) (unhide HAF) (by omega) ?_; intro w1 o1' g1; have T1 := hide ((unhide HT).app1 (k := 0) g1 o1'); clear o1' g1) | (at_builtin; refine wpList_append_int rfl (.tmp 70) (.tmp 72) rfl w.heap.size (w.heap.size + 1) k (k + 1) ls AL rfl (by exact (unhide T1).own2.alloc _) ⟨w1.heap.size, 0, none⟩ x rfl (by exact new_cell w1 x 3) (unhide HAL) (by omega) ?_; intro w4 o2' g2; have T4 := hide ((unhide T1).app2 (k := 0) g2 o2'); clear o2' g2))
      go_loopw [15, 16, 17] (fun v u i wr2 => ∃ j : Nat, j ≤ k + 1 ∧ i = .int .i64 j ∧ v = .slice (some ⟨w4.heap.size, 0, none⟩) j (k + 1) ∧ u = .slice (some ⟨w4.heap.size + 1, 0, none⟩) j (k + 1) ∧
          Two w4 wr2 w4.heap.size (w4.heap.size + 1) (k + 1) j j AF AL) (fun _ _ i _ => k + 1 - (intOf i).toNat)
      case atStart => exact ⟨0, Nat.zero_le _, rfl, rfl, rfl, unhide HS2 w4⟩
      case round =>
        obtain ⟨j, hj, rfl, rfl, rfl, hT2⟩ := hrel
        by_cases hlt : j < k + 1
        · have q0 : wr.cell? ⟨w.heap.size, j, none⟩ = some (.int .i64 (AF j)) := (hT2.below.cell (cell_lt ((unhide T4).cell1 j hlt))).trans ((unhide T4).cell1 j hlt)
          have q1 : wr.cell? ⟨w.heap.size + 1, j, none⟩ = some (.int .i64 (AL j)) := (hT2.below.cell (cell_lt ((unhide T4).cell2 j hlt))).trans ((unhide T4).cell2 j hlt)
          have HT2 := hide hT2
          clear hT2
          rcases j with _ | j
          · go_wp2
            go_quiet (fail)
            go_wp2_with (first | (at_builtin; refine wpList_append_int rfl (.tmp 130) (.tmp 135) rfl w4.heap.size w4.heap.size 0 (k + 1) AF AF rfl (by exact (unhide HT2).own1.alloc _) ⟨wr.heap.size, 0, none⟩ (AF 0) rfl (by exact new_cell wr (AF 0) 3) (ilist_succ AF 0) (by omega) ?_; intro w6 o1' g1; have T6 := hide ((unhide HT2).app1 g1 o1'); clear o1' g1; have q6 := ((unhide T6).below.cell (cell_lt ((unhide T4).cell2 0 hlt))).trans ((unhide T4).cell2 0 hlt)) | (at_builtin; refine wpList_append_int rfl (.tmp 137) (.tmp 142) rfl w4.heap.size (w4.heap.size + 1) 0 (k + 1) AL AL rfl (by exact (unhide T6).own2.alloc _) ⟨w6.heap.size, 0, none⟩ (AL 0) rfl (by exact new_cell w6 (AL 0) 3) (ilist_succ AL 0) (by omega) ?_; intro w7 o2' g2; have T7 := hide ((unhide T6).app2 (k := 0) g2 o2'); clear o2' g2))
            go_roundw
            case rel => exact ⟨0 + 1, by omega, by go_num, rfl, rfl, unhide T7⟩
            case measure => simp [intOf]
          · exact absurd hlt (by omega)
        · have HT2 := hide hT2
          clear hT2
          go_wp2
          go_ret2
          obtain rfl : j = k + 1 := by omega
          exact out_of (unhide HT2) (unhide T4).below

end Go.Proofs.Qxb6602619a.Merge
