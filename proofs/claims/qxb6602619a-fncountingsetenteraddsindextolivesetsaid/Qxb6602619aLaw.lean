/- Seat b6602619a: the law's own walk where the live part is not empty. -/
import Derived.Test.Qxb6602619aZZ
import Derived.Test.Qxb6602619aMergeZ
import Derived.Deep.RegionWith
namespace Go.Proofs.Qxb6602619a.Law
open Go.ChangeShapes Go.WideShapes Go.ChangeAt Go.RowKit
open Reads
set_option linter.unusedVariables false

/-- What zzInsertMerge hands back for m runs and the new run lo .. x. -/
def Merges (m : Nat) (fs ls : Nat → Int) (lo x : Int) (WN : Nat) (WF WL : Nat → Int) : Prop :=
  ∀ (A C : Option Addr) (cA cC : Nat) (w : World), Ints w A m fs → Ints w C m ls →
    Calls Try.prog 10 #[.slice A m cA, .slice C m cC, .int .i64 lo, .int .i64 x] w fun e w' => Merge.Out w WN WF WL e w'

theorem Ints.from_ {w : World} {b off n : Nat} {F : Nat → Int} (h : Ints w (some ⟨b, off, none⟩) n F) (k : Nat) : Ints w (some ⟨b, off + k, none⟩) (n - k) (Sets.from_ F k) := by
  rcases h with h | ⟨b', off', e, hc⟩
  · exact .inl (by omega)
  · simp only [Option.some.injEq, Addr.mk.injEq, and_true] at e
    obtain ⟨rfl, rfl⟩ := e
    exact .inr ⟨b, off + k, rfl, fun j hj => by rw [Nat.add_assoc]; exact hc (k + j) (by omega)⟩

theorem Ints.at_ {w : World} {b off n k : Nat} {F : Nat → Int} (h : Ints w (some ⟨b, off, none⟩) n F) (hk : k < n) : w.cell? ⟨b, off + k, none⟩ = some (.int .i64 (F k)) := by
  rcases h with h | ⟨b', off', e, hc⟩
  · omega
  · simp only [Option.some.injEq, Addr.mk.injEq, and_true] at e
    obtain ⟨rfl, rfl⟩ := e
    exact hc k hk

set_option maxRecDepth 100000 in
set_option maxHeartbeats 2000000 in
theorem walk_one (a0 a1 : Option Addr) (c0 c1 m h gN WN : Nat) (x lo : Int) (F L WF WL GF GL : Nat → Int) (w : World) (hn : m + 1 ≤ 65536) (hh : h ≤ m) (hF : Fits F) (hL : Fits L)
    (h0 : Ints w a0 (m + 1) F) (h1 : Ints w a1 (m + 1) L) (x0 : -9223372036854775808 ≤ x) (x1 : x ≤ 9223372036854775807)
    (hlo : lo = x)
    (hM : WFto F L h (m + 1) → L m ≤ x → Merges (m + 1 - h) (Sets.from_ F h) (Sets.from_ L h) lo x WN WF WL)
    (hE : WFto F L h (m + 1) → L m ≤ x → Sets.Enters (m + 1) h x false F L (gN + WN) gN GF GL)
    (hpos : 0 < WN) (hgN : gN = h ∨ gN = 0) (hlive : ∀ j, j < WN → GF (gN + j) = WF j ∧ GL (gN + j) = WL j) (hold : ∀ j, j < gN → GF j = F j ∧ GL j = L j)
    (hN : gN + WN ≤ m + 1 + 1) (hhalf : m + 1 < gN + WN → 2 * gN ≤ gN + WN) :
    Calls Try.prog 3 #[.slice a0 (m + 1) c0, .slice a1 (m + 1) c1, .int .i64 h, .int .i64 x, .bool false] w fun e w' => e = .returned (.bool true) ∧ Below w.heap.size w w' := by
  rcases h0 with h0 | ⟨b0, o0, rfl, hc0⟩
  · omega
  rcases h1 with h1 | ⟨b1, o1, rfl, hc1⟩
  · omega
  have I0 := hide (show Ints w (some ⟨b0, o0, none⟩) (m + 1) F from .inr ⟨b0, o0, rfl, hc0⟩)
  have I1 := hide (show Ints w (some ⟨b1, o1, none⟩) (m + 1) L from .inr ⟨b1, o1, rfl, hc1⟩)
  have q1 := hc1 m (by omega)
  have HM := hide hM
  have HE := hide hE
  have HLI := hide hlive
  have HOL := hide hold
  have HLO := hide hlo
  have HHF := hide hhalf
  clear hM hE hlive hold hlo hhalf hc0 hc1
  have hni : (m : Int) + 1 ≤ 65536 := by omega
  have HN1 := hide hn
  clear hn
  go_enter Try.func3, Try.ntmps3
  go_wp2_with fail
  refine (bytes7 (some ⟨b0, o0, none⟩) (m + 1) c0 (some ⟨b1, o1, none⟩) (m + 1) c1 h x false _ (by have := HN1.out; unfold maxLen; omega) (by have := HN1.out; unfold maxLen; omega)).mono ?_
  rintro e w' ⟨⟨b, rfl, hb⟩, rfl⟩
  cases b
  · go_wp2
    go_ret
    exact ⟨rfl, Below.refl _ _⟩
  clear hb
  have hdd : decide ((65536 : Int) < (m : Int) + 1) = false := by simp; omega
  have hgb : (gN : Int) ≤ 70000 := by have := HN1.out; omega
  have hmb : (m : Int) ≤ 70000 := by omega
  clear hni
  go_wp2_with fail
  refine (wellFormed (some ⟨b0, o0, none⟩) (m + 1) c0 (some ⟨b1, o1, none⟩) c1 h F L _ (unhide HN1) (by omega) hF hL (unhide I0) (unhide I1)).mono ?_
  rintro e w1 ⟨⟨b, rfl, hb⟩, hb1⟩
  cases b
  · go_wp2
    go_ret
    exact ⟨rfl, hb1⟩
  have HWF := hide (hb rfl)
  clear hb
  have q2 : w1.cell? ⟨b1, o1 + m, none⟩ = some (.int .i64 (L m)) := (hb1.cell (cell_lt q1)).trans q1
  have hhi : (h : Int) < (m : Int) + 1 := by omega
  have hmi : (m : Int) < (m : Int) + 1 := by omega
  have hm0 : (0 : Int) ≤ (m : Int) := by omega
  by_cases hLx : x < L m
  · go_wp2
    go_ret
    exact ⟨rfl, hb1⟩
  have HMs := unhide HM (unhide HWF) (by omega)
  have HEs := hide (unhide HE (unhide HWF) (by omega))
  clear HM HE q1
  go_wp2_with fail
  refine (copy_some ⟨b0, o0, none⟩ (m + 1) c0 F _ (unhide HN1) ((unhide I0).below hb1)).mono ?_
  rintro e w2 ⟨rfl, J0, hb2⟩
  have I1b := hide (((unhide I1).below hb1).below hb2)
  clear I1 I0
  go_wp2_with fail
  refine (copy_some ⟨b1, o1, none⟩ (m + 1) c1 L _ (unhide HN1) (unhide I1b)).mono ?_
  rintro e w3 ⟨rfl, J1, hb3⟩
  have J0b := hide (J0.below hb3)
  have J1b := hide J1
  clear J0 J1 I1b q2
  have q3 : w3.cell? ⟨w2.heap.size, m, none⟩ = some (.int .i64 (L m)) := by simpa using Ints.at_ (unhide J1b) (k := m) (by omega)
  have P0 := hide (show Ints w3 (some ⟨w1.heap.size, h, none⟩) (m + 1 - h) (Sets.from_ F h) by simpa using Ints.from_ (unhide J0b) h)
  have P1 := hide (show Ints w3 (some ⟨w2.heap.size, h, none⟩) (m + 1 - h) (Sets.from_ L h) by simpa using Ints.from_ (unhide J1b) h)
  have hne : ¬ (m + 1 = h) := by omega
  have hh0 : (0 : Int) ≤ (h : Int) := by omega
  have hh1 : (h : Int) ≤ (m : Int) + 1 := by omega
  have HMh := hide HMs
  clear HMs
  have e : x = lo := HLO.out.symm
  subst e
  clear HLO
  go_wp2
  go_region_with ((go_at_call 10; refine (unhide HMh _ _ _ _ _ (by exact unhide P0) (by exact unhide P1)).mono ?_; rintro e w4 ⟨B1, B2, cc, rfl, K0, K1, hb4⟩))
  have Z0 := hide ((show Ints w3.drew (some ⟨w1.heap.size, 0, none⟩) (m + 1) F from unhide J0b).below hb4)
  have Z1 := hide ((show Ints w3.drew (some ⟨w2.heap.size, 0, none⟩) (m + 1) L from unhide J1b).below hb4)
  have HB4 := hide (show Below w'.heap.size w' w4 from (((hb1.trans (hb2.mono hb1.size)).trans (hb3.mono (Nat.le_trans hb1.size hb2.size))).drew).trans (hb4.mono (Nat.le_trans hb1.size (Nat.le_trans hb2.size hb3.size))))
  clear P0 P1 J0b J1b hb1 hb2 hb3 hb4 q3 HMh
  go_wp2_with fail
  refine (Sets.zzEnter (some ⟨w1.heap.size, 0, none⟩) (m + 1) (m + 1) (some ⟨w2.heap.size, 0, none⟩) (m + 1) h x false F L (gN + WN) gN GF GL _ (unhide HN1) (by have := HN1.out; omega) (unhide HEs) (unhide Z0) (unhide Z1)).mono ?_
  rintro e w5 ⟨B3, B4, rfl, M0, M1, hb5⟩
  have Y0 := hide ((unhide Z0).below hb5)
  have Y1 := hide ((unhide Z1).below hb5)
  have V0 := hide (K0.below hb5)
  have V1 := hide (K1.below hb5)
  have N0 := hide M0
  have N1 := hide M1
  have HB5 := hide ((unhide HB4).trans (hb5.mono (unhide HB4).size))
  clear K0 K1 M0 M1 hb5 Z0 Z1 HB4 HEs
  have hg0 : (0 : Int) ≤ (gN : Int) := by omega
  have hg1 : (gN : Int) ≤ (gN : Int) + (WN : Int) := by omega
  have hg2 : ¬ (gN + WN = gN) := by omega
  have hwb : (WN : Int) ≤ 70000 := by have := HN1.out; omega
  go_wp2_with fail
  refine (sameInts (some ⟨B3, gN, none⟩) WN WN (some ⟨B1, 0, none⟩) cc (Sets.from_ GF gN) WF _ (by have := HN1.out; omega) (fun j hj => (unhide HLI j hj).1) (by simpa using Ints.from_ (unhide N0) gN) (unhide V0)).mono ?_
  rintro e w6 ⟨rfl, hb6⟩
  have N1b := hide ((unhide N1).below hb6)
  have V1b := hide ((unhide V1).below hb6)
  clear V0 V1 N1
  go_wp2_with fail
  refine (sameInts (some ⟨B4, gN, none⟩) WN WN (some ⟨B2, 0, none⟩) cc (Sets.from_ GL gN) WL _ (by have := HN1.out; omega) (fun j hj => (unhide HLI j hj).2) (by simpa using Ints.from_ (unhide N1b) gN) (unhide V1b)).mono ?_
  rintro e w7 ⟨rfl, hb7⟩
  have X0 := hide (((unhide N0).below hb6).below hb7)
  have X1 := hide ((unhide N1b).below hb7)
  have R0 := hide (((unhide Y0).below hb6).below hb7)
  have R1 := hide (((unhide Y1).below hb6).below hb7)
  have HB7 := hide (((unhide HB5).trans (hb6.mono (unhide HB5).size)).trans (hb7.mono (Nat.le_trans (unhide HB5).size hb6.size)))
  have hgm : gN ≤ m + 1 := by omega
  have hNi : (gN : Int) + (WN : Int) ≤ (m : Int) + 1 + 1 := by omega
  clear V1b N1b N0 Y0 Y1 HB5 hb6 hb7 hN HLI
  by_cases hgh : gN = h
  · have d1 : ((gN : Int) == (h : Int)) = true := beq_iff_eq.2 (by omega)
    have d2 : ((gN : Int) != (h : Int)) = false := by simp [hgh]
    clear hgh hgN
    go_wp2
    go_loopw [18] (fun i wr => ∃ k : Nat, k ≤ gN ∧ i = .int .i64 k ∧ Below w7.heap.size w7 wr) (fun i _ => gN - (intOf i).toNat)
    case atStart => exact ⟨0, Nat.zero_le _, rfl, Below.refl _ _⟩
    case round =>
      obtain ⟨k, hk, rfl, hbr⟩ := hrel
      by_cases hlt : k < gN
      · obtain ⟨eF, eL⟩ := unhide HOL k hlt
        have t0 : wr.cell? ⟨B3, k, none⟩ = some (.int .i64 (F k)) := by rw [← eF]; simpa using Ints.at_ ((unhide X0).below hbr) (k := k) (by omega)
        have t1 : wr.cell? ⟨B4, k, none⟩ = some (.int .i64 (L k)) := by rw [← eL]; simpa using Ints.at_ ((unhide X1).below hbr) (k := k) (by omega)
        have t2 : wr.cell? ⟨w1.heap.size, k, none⟩ = some (.int .i64 (F k)) := by simpa using Ints.at_ ((unhide R0).below hbr) (k := k) (by omega)
        have t3 : wr.cell? ⟨w2.heap.size, k, none⟩ = some (.int .i64 (L k)) := by simpa using Ints.at_ ((unhide R1).below hbr) (k := k) (by omega)
        have i1 : (k : Int) < (gN : Int) + (WN : Int) := by omega
        have i2 : (k : Int) < (m : Int) + 1 := by omega
        clear eF eL
        go_wp2
        go_quiet (fail)
        go_wp2
        go_roundw
        case rel => exact ⟨k + 1, by omega, by go_num, below_drewN hbr _⟩
        case measure => simp [intOf]; omega
      · have HBE := hide ((unhide HB7).trans (hbr.mono (unhide HB7).size))
        by_cases hgt : (m : Int) + 1 < (gN : Int) + (WN : Int)
        · have hha : 2 * (gN : Int) ≤ (gN : Int) + (WN : Int) := by have := unhide HHF (by omega); omega
          go_wp2
          go_ret
          exact ⟨rfl, unhide HBE⟩
        · go_wp2
          go_ret
          exact ⟨rfl, unhide HBE⟩
  · have d1 : ((gN : Int) == (h : Int)) = false := beq_eq_false_iff_ne.2 (by omega)
    have d2 : ((gN : Int) != (h : Int)) = true := by rw [bne_iff_ne]; omega
    have d3 : ((gN : Int) == 0) = true := beq_iff_eq.2 (by omega)
    have d4 : ((gN : Int) != 0) = false := by
      have : gN = 0 := by omega
      simp [this]
    clear hgh hgN
    go_wp2
    go_loopw [18] (fun i wr => ∃ k : Nat, k ≤ gN ∧ i = .int .i64 k ∧ Below w7.heap.size w7 wr) (fun i _ => gN - (intOf i).toNat)
    case atStart => exact ⟨0, Nat.zero_le _, rfl, Below.refl _ _⟩
    case round =>
      obtain ⟨k, hk, rfl, hbr⟩ := hrel
      by_cases hlt : k < gN
      · obtain ⟨eF, eL⟩ := unhide HOL k hlt
        have t0 : wr.cell? ⟨B3, k, none⟩ = some (.int .i64 (F k)) := by rw [← eF]; simpa using Ints.at_ ((unhide X0).below hbr) (k := k) (by omega)
        have t1 : wr.cell? ⟨B4, k, none⟩ = some (.int .i64 (L k)) := by rw [← eL]; simpa using Ints.at_ ((unhide X1).below hbr) (k := k) (by omega)
        have t2 : wr.cell? ⟨w1.heap.size, k, none⟩ = some (.int .i64 (F k)) := by simpa using Ints.at_ ((unhide R0).below hbr) (k := k) (by omega)
        have t3 : wr.cell? ⟨w2.heap.size, k, none⟩ = some (.int .i64 (L k)) := by simpa using Ints.at_ ((unhide R1).below hbr) (k := k) (by omega)
        have i1 : (k : Int) < (gN : Int) + (WN : Int) := by omega
        have i2 : (k : Int) < (m : Int) + 1 := by omega
        clear eF eL
        go_wp2
        go_quiet (fail)
        go_wp2
        go_roundw
        case rel => exact ⟨k + 1, by omega, by go_num, below_drewN hbr _⟩
        case measure => simp [intOf]; omega
      · have HBE := hide ((unhide HB7).trans (hbr.mono (unhide HB7).size))
        by_cases hgt : (m : Int) + 1 < (gN : Int) + (WN : Int)
        · have hha : 2 * (gN : Int) ≤ (gN : Int) + (WN : Int) := by have := unhide HHF (by omega); omega
          go_wp2
          go_ret
          exact ⟨rfl, unhide HBE⟩
        · go_wp2
          go_ret
          exact ⟨rfl, unhide HBE⟩

set_option maxRecDepth 100000 in
set_option maxHeartbeats 2000000 in
theorem walk_all (a0 a1 : Option Addr) (c0 c1 m h gN WN : Nat) (x lo : Int) (F L WF WL GF GL : Nat → Int) (w : World) (hn : m + 1 ≤ 65536) (hh : h ≤ m) (hF : Fits F) (hL : Fits L)
    (h0 : Ints w a0 (m + 1) F) (h1 : Ints w a1 (m + 1) L) (x0 : -9223372036854775808 ≤ x) (x1 : x ≤ 9223372036854775807)
    (hlo : lo = L m)
    (hM : WFto F L h (m + 1) → L m ≤ x → Merges (m + 1 - h) (Sets.from_ F h) (Sets.from_ L h) lo x WN WF WL)
    (hE : WFto F L h (m + 1) → L m ≤ x → Sets.Enters (m + 1) h x true F L (gN + WN) gN GF GL)
    (hpos : 0 < WN) (hgN : gN = h ∨ gN = 0) (hlive : ∀ j, j < WN → GF (gN + j) = WF j ∧ GL (gN + j) = WL j) (hold : ∀ j, j < gN → GF j = F j ∧ GL j = L j)
    (hN : gN + WN ≤ m + 1 + 1) (hhalf : m + 1 < gN + WN → 2 * gN ≤ gN + WN) :
    Calls Try.prog 3 #[.slice a0 (m + 1) c0, .slice a1 (m + 1) c1, .int .i64 h, .int .i64 x, .bool true] w fun e w' => e = .returned (.bool true) ∧ Below w.heap.size w w' := by
  rcases h0 with h0 | ⟨b0, o0, rfl, hc0⟩
  · omega
  rcases h1 with h1 | ⟨b1, o1, rfl, hc1⟩
  · omega
  have I0 := hide (show Ints w (some ⟨b0, o0, none⟩) (m + 1) F from .inr ⟨b0, o0, rfl, hc0⟩)
  have I1 := hide (show Ints w (some ⟨b1, o1, none⟩) (m + 1) L from .inr ⟨b1, o1, rfl, hc1⟩)
  have q1 := hc1 m (by omega)
  have HM := hide hM
  have HE := hide hE
  have HLI := hide hlive
  have HOL := hide hold
  have HLO := hide hlo
  have HHF := hide hhalf
  clear hM hE hlive hold hlo hhalf hc0 hc1
  have hni : (m : Int) + 1 ≤ 65536 := by omega
  have HN1 := hide hn
  clear hn
  go_enter Try.func3, Try.ntmps3
  go_wp2_with fail
  refine (bytes7 (some ⟨b0, o0, none⟩) (m + 1) c0 (some ⟨b1, o1, none⟩) (m + 1) c1 h x true _ (by have := HN1.out; unfold maxLen; omega) (by have := HN1.out; unfold maxLen; omega)).mono ?_
  rintro e w' ⟨⟨b, rfl, hb⟩, rfl⟩
  cases b
  · go_wp2
    go_ret
    exact ⟨rfl, Below.refl _ _⟩
  clear hb
  have hdd : decide ((65536 : Int) < (m : Int) + 1) = false := by simp; omega
  have hgb : (gN : Int) ≤ 70000 := by have := HN1.out; omega
  have hmb : (m : Int) ≤ 70000 := by omega
  clear hni
  go_wp2_with fail
  refine (wellFormed (some ⟨b0, o0, none⟩) (m + 1) c0 (some ⟨b1, o1, none⟩) c1 h F L _ (unhide HN1) (by omega) hF hL (unhide I0) (unhide I1)).mono ?_
  rintro e w1 ⟨⟨b, rfl, hb⟩, hb1⟩
  cases b
  · go_wp2
    go_ret
    exact ⟨rfl, hb1⟩
  have HWF := hide (hb rfl)
  clear hb
  have q2 : w1.cell? ⟨b1, o1 + m, none⟩ = some (.int .i64 (L m)) := (hb1.cell (cell_lt q1)).trans q1
  have hhi : (h : Int) < (m : Int) + 1 := by omega
  have hmi : (m : Int) < (m : Int) + 1 := by omega
  have hm0 : (0 : Int) ≤ (m : Int) := by omega
  by_cases hLx : x < L m
  · go_wp2
    go_ret
    exact ⟨rfl, hb1⟩
  have HMs := unhide HM (unhide HWF) (by omega)
  have HEs := hide (unhide HE (unhide HWF) (by omega))
  clear HM HE q1
  go_wp2_with fail
  refine (copy_some ⟨b0, o0, none⟩ (m + 1) c0 F _ (unhide HN1) ((unhide I0).below hb1)).mono ?_
  rintro e w2 ⟨rfl, J0, hb2⟩
  have I1b := hide (((unhide I1).below hb1).below hb2)
  clear I1 I0
  go_wp2_with fail
  refine (copy_some ⟨b1, o1, none⟩ (m + 1) c1 L _ (unhide HN1) (unhide I1b)).mono ?_
  rintro e w3 ⟨rfl, J1, hb3⟩
  have J0b := hide (J0.below hb3)
  have J1b := hide J1
  clear J0 J1 I1b q2
  have q3 : w3.cell? ⟨w2.heap.size, m, none⟩ = some (.int .i64 (L m)) := by simpa using Ints.at_ (unhide J1b) (k := m) (by omega)
  have P0 := hide (show Ints w3 (some ⟨w1.heap.size, h, none⟩) (m + 1 - h) (Sets.from_ F h) by simpa using Ints.from_ (unhide J0b) h)
  have P1 := hide (show Ints w3 (some ⟨w2.heap.size, h, none⟩) (m + 1 - h) (Sets.from_ L h) by simpa using Ints.from_ (unhide J1b) h)
  have hne : ¬ (m + 1 = h) := by omega
  have hh0 : (0 : Int) ≤ (h : Int) := by omega
  have hh1 : (h : Int) ≤ (m : Int) + 1 := by omega
  have HMh := hide HMs
  clear HMs
  have e : lo = L m := HLO.out
  subst e
  clear HLO
  go_wp2
  go_region_with ((go_at_call 10; refine (unhide HMh _ _ _ _ _ (by exact unhide P0) (by exact unhide P1)).mono ?_; rintro e w4 ⟨B1, B2, cc, rfl, K0, K1, hb4⟩))
  have Z0 := hide ((show Ints w3.drew (some ⟨w1.heap.size, 0, none⟩) (m + 1) F from unhide J0b).below hb4)
  have Z1 := hide ((show Ints w3.drew (some ⟨w2.heap.size, 0, none⟩) (m + 1) L from unhide J1b).below hb4)
  have HB4 := hide (show Below w'.heap.size w' w4 from (((hb1.trans (hb2.mono hb1.size)).trans (hb3.mono (Nat.le_trans hb1.size hb2.size))).drew).trans (hb4.mono (Nat.le_trans hb1.size (Nat.le_trans hb2.size hb3.size))))
  clear P0 P1 J0b J1b hb1 hb2 hb3 hb4 q3 HMh
  go_wp2_with fail
  refine (Sets.zzEnter (some ⟨w1.heap.size, 0, none⟩) (m + 1) (m + 1) (some ⟨w2.heap.size, 0, none⟩) (m + 1) h x true F L (gN + WN) gN GF GL _ (unhide HN1) (by have := HN1.out; omega) (unhide HEs) (unhide Z0) (unhide Z1)).mono ?_
  rintro e w5 ⟨B3, B4, rfl, M0, M1, hb5⟩
  have Y0 := hide ((unhide Z0).below hb5)
  have Y1 := hide ((unhide Z1).below hb5)
  have V0 := hide (K0.below hb5)
  have V1 := hide (K1.below hb5)
  have N0 := hide M0
  have N1 := hide M1
  have HB5 := hide ((unhide HB4).trans (hb5.mono (unhide HB4).size))
  clear K0 K1 M0 M1 hb5 Z0 Z1 HB4 HEs
  have hg0 : (0 : Int) ≤ (gN : Int) := by omega
  have hg1 : (gN : Int) ≤ (gN : Int) + (WN : Int) := by omega
  have hg2 : ¬ (gN + WN = gN) := by omega
  have hwb : (WN : Int) ≤ 70000 := by have := HN1.out; omega
  go_wp2_with fail
  refine (sameInts (some ⟨B3, gN, none⟩) WN WN (some ⟨B1, 0, none⟩) cc (Sets.from_ GF gN) WF _ (by have := HN1.out; omega) (fun j hj => (unhide HLI j hj).1) (by simpa using Ints.from_ (unhide N0) gN) (unhide V0)).mono ?_
  rintro e w6 ⟨rfl, hb6⟩
  have N1b := hide ((unhide N1).below hb6)
  have V1b := hide ((unhide V1).below hb6)
  clear V0 V1 N1
  go_wp2_with fail
  refine (sameInts (some ⟨B4, gN, none⟩) WN WN (some ⟨B2, 0, none⟩) cc (Sets.from_ GL gN) WL _ (by have := HN1.out; omega) (fun j hj => (unhide HLI j hj).2) (by simpa using Ints.from_ (unhide N1b) gN) (unhide V1b)).mono ?_
  rintro e w7 ⟨rfl, hb7⟩
  have X0 := hide (((unhide N0).below hb6).below hb7)
  have X1 := hide ((unhide N1b).below hb7)
  have R0 := hide (((unhide Y0).below hb6).below hb7)
  have R1 := hide (((unhide Y1).below hb6).below hb7)
  have HB7 := hide (((unhide HB5).trans (hb6.mono (unhide HB5).size)).trans (hb7.mono (Nat.le_trans (unhide HB5).size hb6.size)))
  have hgm : gN ≤ m + 1 := by omega
  have hNi : (gN : Int) + (WN : Int) ≤ (m : Int) + 1 + 1 := by omega
  clear V1b N1b N0 Y0 Y1 HB5 hb6 hb7 hN HLI
  by_cases hgh : gN = h
  · have d1 : ((gN : Int) == (h : Int)) = true := beq_iff_eq.2 (by omega)
    have d2 : ((gN : Int) != (h : Int)) = false := by simp [hgh]
    clear hgh hgN
    go_wp2
    go_loopw [18] (fun i wr => ∃ k : Nat, k ≤ gN ∧ i = .int .i64 k ∧ Below w7.heap.size w7 wr) (fun i _ => gN - (intOf i).toNat)
    case atStart => exact ⟨0, Nat.zero_le _, rfl, Below.refl _ _⟩
    case round =>
      obtain ⟨k, hk, rfl, hbr⟩ := hrel
      by_cases hlt : k < gN
      · obtain ⟨eF, eL⟩ := unhide HOL k hlt
        have t0 : wr.cell? ⟨B3, k, none⟩ = some (.int .i64 (F k)) := by rw [← eF]; simpa using Ints.at_ ((unhide X0).below hbr) (k := k) (by omega)
        have t1 : wr.cell? ⟨B4, k, none⟩ = some (.int .i64 (L k)) := by rw [← eL]; simpa using Ints.at_ ((unhide X1).below hbr) (k := k) (by omega)
        have t2 : wr.cell? ⟨w1.heap.size, k, none⟩ = some (.int .i64 (F k)) := by simpa using Ints.at_ ((unhide R0).below hbr) (k := k) (by omega)
        have t3 : wr.cell? ⟨w2.heap.size, k, none⟩ = some (.int .i64 (L k)) := by simpa using Ints.at_ ((unhide R1).below hbr) (k := k) (by omega)
        have i1 : (k : Int) < (gN : Int) + (WN : Int) := by omega
        have i2 : (k : Int) < (m : Int) + 1 := by omega
        clear eF eL
        go_wp2
        go_quiet (fail)
        go_wp2
        go_roundw
        case rel => exact ⟨k + 1, by omega, by go_num, below_drewN hbr _⟩
        case measure => simp [intOf]; omega
      · have HBE := hide ((unhide HB7).trans (hbr.mono (unhide HB7).size))
        by_cases hgt : (m : Int) + 1 < (gN : Int) + (WN : Int)
        · have hha : 2 * (gN : Int) ≤ (gN : Int) + (WN : Int) := by have := unhide HHF (by omega); omega
          go_wp2
          go_ret
          exact ⟨rfl, unhide HBE⟩
        · go_wp2
          go_ret
          exact ⟨rfl, unhide HBE⟩
  · have d1 : ((gN : Int) == (h : Int)) = false := beq_eq_false_iff_ne.2 (by omega)
    have d2 : ((gN : Int) != (h : Int)) = true := by rw [bne_iff_ne]; omega
    have d3 : ((gN : Int) == 0) = true := beq_iff_eq.2 (by omega)
    have d4 : ((gN : Int) != 0) = false := by
      have : gN = 0 := by omega
      simp [this]
    clear hgh hgN
    go_wp2
    go_loopw [18] (fun i wr => ∃ k : Nat, k ≤ gN ∧ i = .int .i64 k ∧ Below w7.heap.size w7 wr) (fun i _ => gN - (intOf i).toNat)
    case atStart => exact ⟨0, Nat.zero_le _, rfl, Below.refl _ _⟩
    case round =>
      obtain ⟨k, hk, rfl, hbr⟩ := hrel
      by_cases hlt : k < gN
      · obtain ⟨eF, eL⟩ := unhide HOL k hlt
        have t0 : wr.cell? ⟨B3, k, none⟩ = some (.int .i64 (F k)) := by rw [← eF]; simpa using Ints.at_ ((unhide X0).below hbr) (k := k) (by omega)
        have t1 : wr.cell? ⟨B4, k, none⟩ = some (.int .i64 (L k)) := by rw [← eL]; simpa using Ints.at_ ((unhide X1).below hbr) (k := k) (by omega)
        have t2 : wr.cell? ⟨w1.heap.size, k, none⟩ = some (.int .i64 (F k)) := by simpa using Ints.at_ ((unhide R0).below hbr) (k := k) (by omega)
        have t3 : wr.cell? ⟨w2.heap.size, k, none⟩ = some (.int .i64 (L k)) := by simpa using Ints.at_ ((unhide R1).below hbr) (k := k) (by omega)
        have i1 : (k : Int) < (gN : Int) + (WN : Int) := by omega
        have i2 : (k : Int) < (m : Int) + 1 := by omega
        clear eF eL
        go_wp2
        go_quiet (fail)
        go_wp2
        go_roundw
        case rel => exact ⟨k + 1, by omega, by go_num, below_drewN hbr _⟩
        case measure => simp [intOf]; omega
      · have HBE := hide ((unhide HB7).trans (hbr.mono (unhide HB7).size))
        by_cases hgt : (m : Int) + 1 < (gN : Int) + (WN : Int)
        · have hha : 2 * (gN : Int) ≤ (gN : Int) + (WN : Int) := by have := unhide HHF (by omega); omega
          go_wp2
          go_ret
          exact ⟨rfl, unhide HBE⟩
        · go_wp2
          go_ret
          exact ⟨rfl, unhide HBE⟩

end Go.Proofs.Qxb6602619a.Law
