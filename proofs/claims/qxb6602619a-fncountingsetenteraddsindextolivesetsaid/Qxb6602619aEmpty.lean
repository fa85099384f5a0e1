/- Seat b6602619a: the law's own walk where the live part is empty (head = n). -/
import Derived.Test.Qxb6602619aZZ
import Derived.Test.Qxb6602619aMergeZ
import Derived.Deep.RegionWith
namespace Go.Proofs.Qxb6602619a.Empty
open Go.ChangeShapes Go.WideShapes Go.ChangeAt Go.RowKit
open Reads
set_option linter.unusedVariables false

theorem enters_none (n : Nat) (x : Int) (u : Bool) (F L : Nat → Int) (hn : n ≤ 65536) : Sets.Enters n n x u F L 1 0 (fun _ => x) (fun _ => x) :=
  fun B cb g w hL => Sets.enter_none B cb g n x u F L w hn hL

theorem ilist_one (x : Int) : Merge.ilist (fun _ => 0) 0 ++ [.int .i64 x] = Merge.ilist (fun _ => x) (0 + 1) := by rfl

theorem merges_none (A C : Option Addr) (cA cC : Nat) (x : Int) (w : World) :
    Calls Try.prog 10 #[.slice A 0 cA, .slice C 0 cC, .int .i64 x, .int .i64 x] w fun e w' => Merge.Out w (0 + 1) (fun _ => x) (fun _ => x) e w' :=
  Merge.merge_zero A C cA cC 0 x x (fun _ => 0) (fun _ => 0) w (by omega) (Nat.le_refl _) (fun _ => x) (fun _ => x) (ilist_one x) (ilist_one x)

set_option maxRecDepth 100000 in
set_option maxHeartbeats 2000000 in
theorem walk_none (a0 a1 : Option Addr) (c0 c1 n : Nat) (x : Int) (u : Bool) (F L : Nat → Int) (w : World) (hn : n ≤ 65536) (hF : Fits F) (hL : Fits L) (e0 : a0 = none → n = 0) (e1 : a1 = none → n = 0)
    (h0 : Ints w a0 n F) (h1 : Ints w a1 n L) (x0 : -9223372036854775808 ≤ x) (x1 : x ≤ 9223372036854775807) :
    Calls Try.prog 3 #[.slice a0 n c0, .slice a1 n c1, .int .i64 n, .int .i64 x, .bool u] w fun e w' => e = .returned (.bool true) ∧ Below w.heap.size w w' := by
  have I0 := hide h0
  have I1 := hide h1
  have E0 := hide e0
  have E1 := hide e1
  clear h0 h1 e0 e1
  have hni : (n : Int) ≤ 65536 := by omega
  have hn0 : (0 : Int) ≤ (n : Int) := by omega
  have HN1 := hide hn
  clear hn
  go_enter Try.func3, Try.ntmps3
  go_wp2_with fail
  refine (bytes7 a0 n c0 a1 n c1 n x u _ (by have := HN1.out; unfold maxLen; omega) (by have := HN1.out; unfold maxLen; omega)).mono ?_
  rintro e w' ⟨⟨b, rfl, hb⟩, rfl⟩
  cases b
  · go_wp2
    go_ret
    exact ⟨rfl, Below.refl _ _⟩
  clear hb
  go_wp2_with fail
  refine (wellFormed a0 n c0 a1 c1 n F L _ (unhide HN1) (Nat.le_refl _) hF hL (unhide I0) (unhide I1)).mono ?_
  rintro e w1 ⟨⟨b, rfl, hb⟩, hb1⟩
  cases b
  · go_wp2
    go_ret
    exact ⟨rfl, hb1⟩
  clear hb
  go_wp2_with fail
  refine (copy_any a0 n c0 F _ (unhide E0) (unhide HN1) ((unhide I0).below hb1)).mono ?_
  rintro e w2 ⟨r0, rfl, _, J0, hb2⟩
  have I1b := hide (((unhide I1).below hb1).below hb2)
  clear I1 I0
  go_wp2_with fail
  refine (copy_any a1 n c1 L _ (unhide E1) (unhide HN1) (unhide I1b)).mono ?_
  rintro e w3 ⟨r1, rfl, _, J1, hb3⟩
  have J0b := hide (J0.below hb3)
  have J1b := hide J1
  clear J0 J1 I1b
  cases u
  all_goals
    go_wp2
    go_region_with ((go_at_call 10; refine (merges_none _ _ _ _ x _).mono ?_; rintro e w4 ⟨B1, B2, cc, rfl, K0, K1, hb4⟩))
    have Z0 := hide ((show Ints w3.drew r0 n F from unhide J0b).below hb4)
    have Z1 := hide ((show Ints w3.drew r1 n L from unhide J1b).below hb4)
    have HB4 := hide (show Below w'.heap.size w' w4 from (((hb1.trans (hb2.mono hb1.size)).trans (hb3.mono (Nat.le_trans hb1.size hb2.size))).drew).trans (hb4.mono (Nat.le_trans hb1.size (Nat.le_trans hb2.size hb3.size))))
    clear J0b J1b hb1 hb2 hb3 hb4
    go_wp2_with fail
    refine (Sets.zzEnter r0 n n r1 n n x _ F L 1 0 (fun _ => x) (fun _ => x) _ (unhide HN1) (by omega) (enters_none n x _ F L (unhide HN1)) (unhide Z0) (unhide Z1)).mono ?_
    rintro e w5 ⟨B3, B4, rfl, M0, M1, hb5⟩
    have V0 := hide (K0.below hb5)
    have V1 := hide (K1.below hb5)
    have N0 := hide M0
    have N1 := hide M1
    have HB5 := hide ((unhide HB4).trans (hb5.mono (unhide HB4).size))
    clear K0 K1 M0 M1 hb5 Z0 Z1 HB4
    go_wp2_with fail
    refine (sameInts (some ⟨B3, 0, none⟩) 1 1 (some ⟨B1, 0, none⟩) cc (fun _ => x) (fun _ => x) _ (by omega) (fun j hj => rfl) (unhide N0) (unhide V0)).mono ?_
    rintro e w6 ⟨rfl, hb6⟩
    have N1b := hide ((unhide N1).below hb6)
    have V1b := hide ((unhide V1).below hb6)
    clear V0 V1 N1
    go_wp2_with fail
    refine (sameInts (some ⟨B4, 0, none⟩) 1 1 (some ⟨B2, 0, none⟩) cc (fun _ => x) (fun _ => x) _ (by omega) (fun j hj => rfl) (unhide N1b) (unhide V1b)).mono ?_
    rintro e w7 ⟨rfl, hb7⟩
    have HB7 := hide (((unhide HB5).trans (hb6.mono (unhide HB5).size)).trans (hb7.mono (Nat.le_trans (unhide HB5).size hb6.size)))
    clear V1b N1b N0 HB5 hb6 hb7
    by_cases hz : (n : Int) = 0
    · have d1 : ((0 : Int) == (n : Int)) = true := beq_iff_eq.2 hz.symm
      have d2 : ((0 : Int) != (n : Int)) = false := by simp [hz]
      have hz1 : (n : Int) < 1 := by omega
      clear hz
      go_wp2
      go_loop [18] (fun i => i = .int .i64 0) (fun _ => 0)
      case atStart => rfl
      case round =>
        subst hrel
        go_wp2
        go_ret
        exact ⟨rfl, unhide HB7⟩
    · have d1 : ((0 : Int) == (n : Int)) = false := beq_eq_false_iff_ne.2 (fun h => hz h.symm)
      have d2 : ((0 : Int) != (n : Int)) = true := by rw [bne_iff_ne]; exact fun h => hz h.symm
      have hz1 : ¬ (n : Int) < 1 := by omega
      clear hz
      go_wp2
      go_loop [18] (fun i => i = .int .i64 0) (fun _ => 0)
      case atStart => rfl
      case round =>
        subst hrel
        go_wp2
        go_ret
        exact ⟨rfl, unhide HB7⟩
end Go.Proofs.Qxb6602619a.Empty
