/- Seat b6602619a: zzInsertMerge where the new run comes last. -/
import Derived.Test.Qxb6602619aTwo
namespace Go.Proofs.Qxb6602619a.Merge
open Go.ChangeShapes Go.WideShapes Go.ChangeAt Go.RowKit
open Reads
set_option linter.unusedVariables false

/-- Two slices of N numbers are handed back. -/
def Out (w : World) (N : Nat) (RF RL : Nat → Int) (e : Ending) (w' : World) : Prop :=
  ∃ b1 b2 c, e = .returned (.tuple #[.slice (some ⟨b1, 0, none⟩) N c, .slice (some ⟨b2, 0, none⟩) N c]) ∧
    Ints w' (some ⟨b1, 0, none⟩) N RF ∧ Ints w' (some ⟨b2, 0, none⟩) N RL ∧ Below w.heap.size w w'

theorem out_of {w w5 wr : World} {A C cap N : Nat} {f1 f2 : Nat → Int} (h : Two w5 wr A C cap N N f1 f2) (hb : Below w.heap.size w w5) :
    Out w N f1 f2 (.returned (.tuple #[.slice (some ⟨A, 0, none⟩) N cap, .slice (some ⟨C, 0, none⟩) N cap])) wr :=
  ⟨A, C, cap, rfl, h.ints1, h.ints2, hb.trans (h.below.mono hb.size)⟩

theorem two_same {w0 w : World} {A C cap q : Nat} {f1 f2 : Nat → Int} {y : Int} (h : Two w0 w A C cap (q + 1) (q + 1) f1 f2) (hy : y = f2 q) : Two w0 w A C cap (q + 1) (q + 1) f1 (upd f2 q y) :=
  ⟨h.own1, by have e : ilist (upd f2 q y) (q + 1) = ilist f2 (q + 1) := ilist_congr (fun i _ => by unfold upd; split <;> simp_all)
              rw [e]; exact h.own2, h.below, h.ne⟩

set_option maxRecDepth 100000 in
set_option maxHeartbeats 2000000 in
theorem merge_no (b0 o0 c0 b1 o1 c1 m : Nat) (lo x : Int) (fs ls : Nat → Int) (w : World) (hm : m ≤ 65536) (hpos : 0 < m)
    (hc0 : ∀ k, k < m → w.cell? ⟨b0, o0 + k, none⟩ = some (.int .i64 (fs k))) (hc1 : ∀ k, k < m → w.cell? ⟨b1, o1 + k, none⟩ = some (.int .i64 (ls k)))
    (h1 : ∀ k, k < m → fs k ≤ lo) (AF AL : Nat → Int) (HAF : Hid (ilist fs m ++ [.int .i64 lo] = ilist AF (m + 1))) (HAL : Hid (ilist ls m ++ [.int .i64 x] = ilist AL (m + 1)))
    (hno : ∀ j, j < m → AL j < AF (j + 1) ∧ AL j ≠ AF (j + 1) - 1 ∧ -9223372036854775808 ≤ AL j ∧ AF (j + 1) ≤ 9223372036854775807) :
    Calls Try.prog 10 #[.slice (some ⟨b0, o0, none⟩) m c0, .slice (some ⟨b1, o1, none⟩) m c1, .int .i64 lo, .int .i64 x] w fun e w' => Out w (m + 1) AF AL e w' := by
  have hmk := run_make0 m hm
  have HS := hide (two_start w m fs ls hm)
  have H1 := hide h1
  have HNO := hide hno
  have hS2 := fun w5 : World => two_start w5 m AF AL hm
  have HS2 := hide hS2
  have HC0 := hide hc0
  have HC1 := hide hc1
  clear hc0 hc1 h1 hno hS2
  go_enter Try.func10, Try.ntmps10
  go_wp2
  go_loopw [11, 12, 13, 14] (fun v u p i wr => ∃ k : Nat, k ≤ m ∧ i = .int .i64 k ∧ p = .bool false ∧ v = .slice (some ⟨w.heap.size, 0, none⟩) k (m + 1) ∧ u = .slice (some ⟨w.heap.size + 1, 0, none⟩) k (m + 1) ∧
      Two w wr w.heap.size (w.heap.size + 1) (m + 1) k k fs ls) (fun _ _ _ i _ => m - (intOf i).toNat)
  case atStart => exact ⟨0, Nat.zero_le _, rfl, rfl, rfl, rfl, unhide HS⟩
  case round =>
    obtain ⟨k, hk, rfl, rfl, rfl, rfl, hT⟩ := hrel
    by_cases hlt : k < m
    · have k0 : wr.cell? ⟨b0, o0 + k, none⟩ = some (.int .i64 (fs k)) := (hT.below.cell (cell_lt (unhide HC0 k hlt))).trans (unhide HC0 k hlt)
      have hlo := unhide H1 k hlt
      have hz' : (k : Int) < (m : Int) := by omega
      have HT := hide hT
      clear hT
      go_wp2_with (first | (at_builtin; refine wpList_append_int rfl (.tmp 50) (.tmp 55) rfl w.heap.size w.heap.size k (m + 1) fs fs rfl (by exact (unhide HT).own1.alloc _) ⟨wr.heap.size, 0, none⟩ (fs k) rfl (by exact new_cell wr (fs k) 3) (ilist_succ fs k) (by omega) ?_; intro w1 o1' g1; have T1 := hide ((unhide HT).app1 (k := 0) g1 o1'); clear o1' g1; have k1 := ((unhide T1).below.cell (cell_lt (unhide HC1 k hlt))).trans (unhide HC1 k hlt)) | (at_builtin; refine wpList_append_int rfl (.tmp 57) (.tmp 62) rfl w.heap.size (w.heap.size + 1) k (m + 1) ls ls rfl (by exact (unhide T1).own2.alloc _) ⟨w1.heap.size, 0, none⟩ (ls k) rfl (by exact new_cell w1 (ls k) 3) (ilist_succ ls k) (by omega) ?_; intro w2 o2' g2; have T2 := hide ((unhide T1).app2 (k := 0) g2 o2'); clear o2' g2))
      go_roundw
      case rel => exact ⟨k + 1, by omega, by go_num, rfl, rfl, rfl, unhide T2⟩
      case measure => simp [intOf]; omega
    · have HT := hide hT
      have e : k = m := by omega
      clear hT hk hlt
      subst e
      go_wp2_with (first | (at_builtin; refine wpList_append_int rfl (.tmp 66) (.tmp 68) rfl w.heap.size w.heap.size k (k + 1) fs AF rfl (by exact (unhide HT).own1.alloc _) ⟨wr.heap.size, 0, none⟩ lo rfl (by exact new_cell wr lo 3) (unhide HAF) (by omega) ?_; intro w1 o1' g1; have T1 := hide ((unhide HT).app1 (k := 0) g1 o1'); clear o1' g1) | (at_builtin; refine wpList_append_int rfl (.tmp 70) (.tmp 72) rfl w.heap.size (w.heap.size + 1) k (k + 1) ls AL rfl (by exact (unhide T1).own2.alloc _) ⟨w1.heap.size, 0, none⟩ x rfl (by exact new_cell w1 x 3) (unhide HAL) (by omega) ?_; intro w4 o2' g2; have T4 := hide ((unhide T1).app2 (k := 0) g2 o2'); clear o2' g2))
      go_loopw [15, 16, 17] (fun v u i wr2 => ∃ j : Nat, j ≤ k + 1 ∧ i = .int .i64 j ∧ v = .slice (some ⟨w4.heap.size, 0, none⟩) j (k + 1) ∧ u = .slice (some ⟨w4.heap.size + 1, 0, none⟩) j (k + 1) ∧
          Two w4 wr2 w4.heap.size (w4.heap.size + 1) (k + 1) j j AF AL) (fun _ _ i _ => k + 1 - (intOf i).toNat)
      case atStart => exact ⟨0, Nat.zero_le _, rfl, rfl, rfl, unhide HS2 w4⟩
      case round =>
        obtain ⟨j, hj, rfl, rfl, rfl, hT2⟩ := hrel
        by_cases hlt : j < k + 1
        · have q0 : wr.cell? ⟨w.heap.size, j, none⟩ = some (.int .i64 (AF j)) := (hT2.below.cell (cell_lt ((unhide T4).cell1 j hlt))).trans ((unhide T4).cell1 j hlt)
          have q1 : wr.cell? ⟨w.heap.size + 1, j, none⟩ = some (.int .i64 (AL j)) := (hT2.below.cell (cell_lt ((unhide T4).cell2 j hlt))).trans ((unhide T4).cell2 j hlt)
          have HT2 := hide hT2
          clear hT2
          rcases j with _ | j
          · go_wp2
            go_quiet (fail)
            go_wp2_with (first | (at_builtin; refine wpList_append_int rfl (.tmp 130) (.tmp 135) rfl w4.heap.size w4.heap.size 0 (k + 1) AF AF rfl (by exact (unhide HT2).own1.alloc _) ⟨wr.heap.size, 0, none⟩ (AF 0) rfl (by exact new_cell wr (AF 0) 3) (ilist_succ AF 0) (by omega) ?_; intro w6 o1' g1; have T6 := hide ((unhide HT2).app1 g1 o1'); clear o1' g1; have q6 := ((unhide T6).below.cell (cell_lt ((unhide T4).cell2 0 hlt))).trans ((unhide T4).cell2 0 hlt)) | (at_builtin; refine wpList_append_int rfl (.tmp 137) (.tmp 142) rfl w4.heap.size (w4.heap.size + 1) 0 (k + 1) AL AL rfl (by exact (unhide T6).own2.alloc _) ⟨w6.heap.size, 0, none⟩ (AL 0) rfl (by exact new_cell w6 (AL 0) 3) (ilist_succ AL 0) (by omega) ?_; intro w7 o2' g2; have T7 := hide ((unhide T6).app2 (k := 0) g2 o2'); clear o2' g2))
            go_roundw
            case rel => exact ⟨0 + 1, by omega, by go_num, rfl, rfl, unhide T7⟩
            case measure => simp [intOf]
          · obtain ⟨n1, n2, n3, n4⟩ := unhide HNO j (by omega)
            have q2 := (unhide HT2).cell2 j (by omega)
            have hg0 : (0 : Int) ≤ (j : Int) := by omega
            have hjk : (j : Int) < (j : Int) + 1 := by omega
            have hjk2 : (j : Int) < (k : Int) := by omega
            have hd : decide (AF (j + 1) ≤ AL j) = false := decide_eq_false (by omega)
            have he : (AF (j + 1) - 1 == AL j) = false := beq_eq_false_iff_ne.2 (fun h => n2 h.symm)
            clear n2
            go_wp2
            go_quiet (fail)
            go_wp2_with (first | (at_builtin; refine wpList_append_int rfl (.tmp 130) (.tmp 135) rfl w4.heap.size w4.heap.size (j + 1) (k + 1) AF AF rfl (by exact (unhide HT2).own1.alloc _) ⟨wr.heap.size, 0, none⟩ (AF (j + 1)) rfl (by exact new_cell wr (AF (j + 1)) 3) (ilist_succ AF (j + 1)) (by omega) ?_; intro w6 o1' g1; have T6 := hide ((unhide HT2).app1 g1 o1'); clear o1' g1; have q6 := ((unhide T6).below.cell (cell_lt ((unhide T4).cell2 (j + 1) hlt))).trans ((unhide T4).cell2 (j + 1) hlt)) | (at_builtin; refine wpList_append_int rfl (.tmp 137) (.tmp 142) rfl w4.heap.size (w4.heap.size + 1) (j + 1) (k + 1) AL AL rfl (by exact (unhide T6).own2.alloc _) ⟨w6.heap.size, 0, none⟩ (AL (j + 1)) rfl (by exact new_cell w6 (AL (j + 1)) 3) (ilist_succ AL (j + 1)) (by omega) ?_; intro w7 o2' g2; have T7 := hide ((unhide T6).app2 (k := 0) g2 o2'); clear o2' g2))
            go_roundw
            case rel => exact ⟨(j + 1) + 1, by omega, by go_num, rfl, rfl, unhide T7⟩
            case measure => simp [intOf]; omega
        · have HT2 := hide hT2
          clear hT2
          go_wp2
          go_ret2
          obtain rfl : j = k + 1 := by omega
          exact out_of (unhide HT2) (unhide T4).below
set_option maxRecDepth 100000 in
set_option maxHeartbeats 2000000 in
theorem merge_yes (b0 o0 c0 b1 o1 c1 m : Nat) (lo x : Int) (fs ls : Nat → Int) (w : World) (hm : m ≤ 65536) (hpos : 0 < m)
    (hc0 : ∀ k, k < m → w.cell? ⟨b0, o0 + k, none⟩ = some (.int .i64 (fs k))) (hc1 : ∀ k, k < m → w.cell? ⟨b1, o1 + k, none⟩ = some (.int .i64 (ls k)))
    (h1 : ∀ k, k < m → fs k ≤ lo) (AF AL : Nat → Int) (HAF : Hid (ilist fs m ++ [.int .i64 lo] = ilist AF (m + 1))) (HAL : Hid (ilist ls m ++ [.int .i64 x] = ilist AL (m + 1)))
    (hno : ∀ j, j + 1 < m → AL j < AF (j + 1) ∧ AL j ≠ AF (j + 1) - 1 ∧ -9223372036854775808 ≤ AL j ∧ AF (j + 1) ≤ 9223372036854775807)
    (hyes : ∀ q, m = q + 1 → (AF (q + 1) ≤ AL q ∨ AL q = AF (q + 1) - 1) ∧ AL q ≤ AL (q + 1) ∧ -9223372036854775808 ≤ AL q ∧ AF (q + 1) ≤ 9223372036854775807) :
    Calls Try.prog 10 #[.slice (some ⟨b0, o0, none⟩) m c0, .slice (some ⟨b1, o1, none⟩) m c1, .int .i64 lo, .int .i64 x] w fun e w' => Out w m AF (upd AL (m - 1) (AL m)) e w' := by
  have hmk := run_make0 m hm
  have HS := hide (two_start w m fs ls hm)
  have H1 := hide h1
  have HNO := hide hno
  have HYES := hide hyes
  have hS2 := fun w5 : World => two_start w5 m AF AL hm
  have HS2 := hide hS2
  have HC0 := hide hc0
  have HC1 := hide hc1
  clear hc0 hc1 h1 hno hyes hS2
  go_enter Try.func10, Try.ntmps10
  go_wp2
  go_loopw [11, 12, 13, 14] (fun v u p i wr => ∃ k : Nat, k ≤ m ∧ i = .int .i64 k ∧ p = .bool false ∧ v = .slice (some ⟨w.heap.size, 0, none⟩) k (m + 1) ∧ u = .slice (some ⟨w.heap.size + 1, 0, none⟩) k (m + 1) ∧
      Two w wr w.heap.size (w.heap.size + 1) (m + 1) k k fs ls) (fun _ _ _ i _ => m - (intOf i).toNat)
  case atStart => exact ⟨0, Nat.zero_le _, rfl, rfl, rfl, rfl, unhide HS⟩
  case round =>
    obtain ⟨k, hk, rfl, rfl, rfl, rfl, hT⟩ := hrel
    by_cases hlt : k < m
    · have k0 : wr.cell? ⟨b0, o0 + k, none⟩ = some (.int .i64 (fs k)) := (hT.below.cell (cell_lt (unhide HC0 k hlt))).trans (unhide HC0 k hlt)
      have hlo := unhide H1 k hlt
      have hz' : (k : Int) < (m : Int) := by omega
      have HT := hide hT
      clear hT
      go_wp2_with (first | (at_builtin; refine wpList_append_int rfl (.tmp 50) (.tmp 55) rfl w.heap.size w.heap.size k (m + 1) fs fs rfl (by exact (unhide HT).own1.alloc _) ⟨wr.heap.size, 0, none⟩ (fs k) rfl (by exact new_cell wr (fs k) 3) (ilist_succ fs k) (by omega) ?_; intro w1 o1' g1; have T1 := hide ((unhide HT).app1 (k := 0) g1 o1'); clear o1' g1; have k1 := ((unhide T1).below.cell (cell_lt (unhide HC1 k hlt))).trans (unhide HC1 k hlt)) | (at_builtin; refine wpList_append_int rfl (.tmp 57) (.tmp 62) rfl w.heap.size (w.heap.size + 1) k (m + 1) ls ls rfl (by exact (unhide T1).own2.alloc _) ⟨w1.heap.size, 0, none⟩ (ls k) rfl (by exact new_cell w1 (ls k) 3) (ilist_succ ls k) (by omega) ?_; intro w2 o2' g2; have T2 := hide ((unhide T1).app2 (k := 0) g2 o2'); clear o2' g2))
      go_roundw
      case rel => exact ⟨k + 1, by omega, by go_num, rfl, rfl, rfl, unhide T2⟩
      case measure => simp [intOf]; omega
    · have HT := hide hT
      have e : k = m := by omega
      clear hT hk hlt
      subst e
      go_wp2_with (first | (at_builtin; refine wpList_append_int rfl (.tmp 66) (.tmp 68) rfl w.heap.size w.heap.size k (k + 1) fs AF rfl (by exact (unhide HT).own1.alloc _) ⟨wr.heap.size, 0, none⟩ lo rfl (by exact new_cell wr lo 3) (unhide HAF) (by omega) ?_; intro w1 o1' g1; have T1 := hide ((unhide HT).app1 (k := 0) g1 o1'); clear o1' g1) | (at_builtin; refine wpList_append_int rfl (.tmp 70) (.tmp 72) rfl w.heap.size (w.heap.size + 1) k (k + 1) ls AL rfl (by exact (unhide T1).own2.alloc _) ⟨w1.heap.size, 0, none⟩ x rfl (by exact new_cell w1 x 3) (unhide HAL) (by omega) ?_; intro w4 o2' g2; have T4 := hide ((unhide T1).app2 (k := 0) g2 o2'); clear o2' g2))
      go_loopw [15, 16, 17] (fun v u i wr2 => (∃ j : Nat, j ≤ k ∧ i = .int .i64 j ∧ v = .slice (some ⟨w4.heap.size, 0, none⟩) j (k + 1) ∧ u = .slice (some ⟨w4.heap.size + 1, 0, none⟩) j (k + 1) ∧
          Two w4 wr2 w4.heap.size (w4.heap.size + 1) (k + 1) j j AF AL) ∨ (i = .int .i64 ((k + 1 : Nat) : Int) ∧ v = .slice (some ⟨w4.heap.size, 0, none⟩) k (k + 1) ∧ u = .slice (some ⟨w4.heap.size + 1, 0, none⟩) k (k + 1) ∧
          Two w4 wr2 w4.heap.size (w4.heap.size + 1) (k + 1) k k AF (upd AL (k - 1) (AL k)))) (fun _ _ i _ => k + 1 - (intOf i).toNat)
      case atStart => exact .inl ⟨0, Nat.zero_le _, rfl, rfl, rfl, unhide HS2 w4⟩
      case round =>
        rcases hrel with ⟨j, hj, rfl, rfl, rfl, hT2⟩ | ⟨rfl, rfl, rfl, hT2⟩
        · have hlt : j < k + 1 := by omega
          have q0 : wr.cell? ⟨w.heap.size, j, none⟩ = some (.int .i64 (AF j)) := (hT2.below.cell (cell_lt ((unhide T4).cell1 j hlt))).trans ((unhide T4).cell1 j hlt)
          have q1 : wr.cell? ⟨w.heap.size + 1, j, none⟩ = some (.int .i64 (AL j)) := (hT2.below.cell (cell_lt ((unhide T4).cell2 j hlt))).trans ((unhide T4).cell2 j hlt)
          by_cases hjk' : j < k
          · have HT2 := hide hT2
            clear hT2
            rcases j with _ | j
            · go_wp2
              go_quiet (fail)
              go_wp2_with (first | (at_builtin; refine wpList_append_int rfl (.tmp 130) (.tmp 135) rfl w4.heap.size w4.heap.size 0 (k + 1) AF AF rfl (by exact (unhide HT2).own1.alloc _) ⟨wr.heap.size, 0, none⟩ (AF 0) rfl (by exact new_cell wr (AF 0) 3) (ilist_succ AF 0) (by omega) ?_; intro w6 o1' g1; have T6 := hide ((unhide HT2).app1 g1 o1'); clear o1' g1; have q6 := ((unhide T6).below.cell (cell_lt ((unhide T4).cell2 0 hlt))).trans ((unhide T4).cell2 0 hlt)) | (at_builtin; refine wpList_append_int rfl (.tmp 137) (.tmp 142) rfl w4.heap.size (w4.heap.size + 1) 0 (k + 1) AL AL rfl (by exact (unhide T6).own2.alloc _) ⟨w6.heap.size, 0, none⟩ (AL 0) rfl (by exact new_cell w6 (AL 0) 3) (ilist_succ AL 0) (by omega) ?_; intro w7 o2' g2; have T7 := hide ((unhide T6).app2 (k := 0) g2 o2'); clear o2' g2))
              go_roundw
              case rel => exact .inl ⟨0 + 1, by omega, by go_num, rfl, rfl, unhide T7⟩
              case measure => simp [intOf]
            · obtain ⟨n1, n2, n3, n4⟩ := unhide HNO j (by omega)
              have q2 := (unhide HT2).cell2 j (by omega)
              have hg0 : (0 : Int) ≤ (j : Int) := by omega
              have hjk : (j : Int) < (j : Int) + 1 := by omega
              have hjk2 : (j : Int) < (k : Int) := by omega
              have hd : decide (AF (j + 1) ≤ AL j) = false := decide_eq_false (by omega)
              have he : (AF (j + 1) - 1 == AL j) = false := beq_eq_false_iff_ne.2 (fun h => n2 h.symm)
              clear n2
              go_wp2
              go_quiet (fail)
              go_wp2_with (first | (at_builtin; refine wpList_append_int rfl (.tmp 130) (.tmp 135) rfl w4.heap.size w4.heap.size (j + 1) (k + 1) AF AF rfl (by exact (unhide HT2).own1.alloc _) ⟨wr.heap.size, 0, none⟩ (AF (j + 1)) rfl (by exact new_cell wr (AF (j + 1)) 3) (ilist_succ AF (j + 1)) (by omega) ?_; intro w6 o1' g1; have T6 := hide ((unhide HT2).app1 g1 o1'); clear o1' g1; have q6 := ((unhide T6).below.cell (cell_lt ((unhide T4).cell2 (j + 1) hlt))).trans ((unhide T4).cell2 (j + 1) hlt)) | (at_builtin; refine wpList_append_int rfl (.tmp 137) (.tmp 142) rfl w4.heap.size (w4.heap.size + 1) (j + 1) (k + 1) AL AL rfl (by exact (unhide T6).own2.alloc _) ⟨w6.heap.size, 0, none⟩ (AL (j + 1)) rfl (by exact new_cell w6 (AL (j + 1)) 3) (ilist_succ AL (j + 1)) (by omega) ?_; intro w7 o2' g2; have T7 := hide ((unhide T6).app2 (k := 0) g2 o2'); clear o2' g2))
              go_roundw
              case rel => exact .inl ⟨(j + 1) + 1, by omega, by go_num, rfl, rfl, unhide T7⟩
              case measure => simp [intOf]; omega
          have e3 : j = k := by omega
          clear hj hjk'
          subst e3
          obtain ⟨q, rfl⟩ : ∃ q, j = q + 1 := ⟨j - 1, by omega⟩
          obtain ⟨y1, y2, y3, y4⟩ := unhide HYES q rfl
          have HT2 := hide hT2
          clear hT2
          have q2 := (unhide HT2).cell2 q (by omega)
          have r2 := (unhide HT2).own2.frozenAt q
          have hg0 : (0 : Int) ≤ (q : Int) := by omega
          have hjk : (q : Int) < (q : Int) + 1 := by omega
          have hjk2 : (q : Int) + 1 < (q : Int) + 1 + 1 := by omega
          have S1 := hide (fun n : Nat => ((unhide HT2).drewN n).set2 q (AL (q + 1)))
          by_cases hle : AF (q + 1) ≤ AL q
          · have hd : decide (AF (q + 1) ≤ AL q) = true := decide_eq_true hle
            clear y1
            by_cases hgt : AL q < AL (q + 1)
            · go_wp2
              go_quiet (fail)
              go_wp2
              go_quiet (fail)
              go_wp2
              go_roundw
              case rel => first | exact .inr ⟨by go_num, rfl, rfl, unhide S1 _⟩ | ((repeat apply Exists.intro); exact ⟨.inr ⟨by go_num, rfl, rfl, unhide S1 _⟩, rfl⟩)
              case measure => simp [intOf]; omega
            · have S2 := hide (fun n : Nat => two_same ((unhide HT2).drewN n) (show AL (q + 1) = AL q by omega))
              go_wp2
              go_quiet (fail)
              go_wp2
              go_quiet (fail)
              go_wp2
              go_roundw
              case rel => first | exact .inr ⟨by go_num, rfl, rfl, unhide S2 _⟩ | ((repeat apply Exists.intro); exact ⟨.inr ⟨by go_num, rfl, rfl, unhide S2 _⟩, rfl⟩)
              case measure => simp [intOf]; omega
          · have hd : decide (AF (q + 1) ≤ AL q) = false := decide_eq_false hle
            have he : (AF (q + 1) - 1 == AL q) = true := beq_iff_eq.2 (by omega)
            clear y1
            by_cases hgt : AL q < AL (q + 1)
            · go_wp2
              go_quiet (fail)
              go_wp2
              go_quiet (fail)
              go_wp2
              go_roundw
              case rel => first | exact .inr ⟨by go_num, rfl, rfl, unhide S1 _⟩ | ((repeat apply Exists.intro); exact ⟨.inr ⟨by go_num, rfl, rfl, unhide S1 _⟩, rfl⟩)
              case measure => simp [intOf]; omega
            · have S2 := hide (fun n : Nat => two_same ((unhide HT2).drewN n) (show AL (q + 1) = AL q by omega))
              go_wp2
              go_quiet (fail)
              go_wp2
              go_quiet (fail)
              go_wp2
              go_roundw
              case rel => first | exact .inr ⟨by go_num, rfl, rfl, unhide S2 _⟩ | ((repeat apply Exists.intro); exact ⟨.inr ⟨by go_num, rfl, rfl, unhide S2 _⟩, rfl⟩)
              case measure => simp [intOf]; omega
        · have HT2 := hide hT2
          clear hT2
          go_wp2
          go_ret2
          exact out_of (unhide HT2) (unhide T4).below

end Go.Proofs.Qxb6602619a.Merge
