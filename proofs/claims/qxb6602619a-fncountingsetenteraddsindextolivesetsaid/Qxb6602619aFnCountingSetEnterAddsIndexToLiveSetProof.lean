/- 'Rows.FnCountingSetEnterAddsIndexToLiveSetSaid' proved. The frame was written by the kit's skeleton tool; the walk is ours (Qxb6602619aReads .. Qxb6602619aCases). -/
import Derived.Test.Qxb6602619aRows
import Derived.WalkKit
import Derived.ProofKit
import Derived.OpenShut
import Derived.ShutString
import Derived.ChangeOld
import Derived.Below
import Derived.Test.Qxb6602619aCases
import Derived.Test.Qxb6602619aEmpty
namespace Go.Proofs.Qxb6602619a.fnCountingSetEnterAddsIndexToLiveSet
open Go.ChangeShapes Go.WideShapes Go.ChangeAt Go.RowKit
open Go.ChangeMaps (open_string shut_string)
set_option linter.unusedVariables false

theorem own : ownKnob Try.prog.godebug = none := by kernel_rfl
theorem laidOut : laidOutB Try.prog = true := by kernel_rfl

/-- WHAT THE WALK IS TOLD OF A SLICE OF INTEGERS THAT CAME IN: it is nil; or it leads to a row of 'cap' cells, the numbers 'zs' (the first 'len' are its elements, the rest its spare room), each fitting its kind. -/
def IsRow (k : IntKind) (w : World) (a : Option Addr) (len cap : Nat) (zs : List Int) : Prop :=
  (a = none ∧ len = 0 ∧ cap = 0 ∧ zs = []) ∨
  ∃ x, a = some x ∧ len ≤ cap ∧ cap ≤ maxLen ∧ zs.length = cap ∧ (∀ i, i < zs.length → w.cell? (x.add i) = some (.int k (zs.getD i 0))) ∧ ∀ n ∈ zs, (Lit.int k n).wf = true

/-- What a row that came in tells the walk. -/
theorem ints_of {w : World} {a : Option Addr} {len cap : Nat} {zs : List Int} (h : IsRow .i64 w a len cap zs) :
    Reads.Ints w a len (fun i => zs.getD i 0) ∧ Reads.Fits (fun i => zs.getD i 0) ∧ (a = none → len = 0) ∧ len ≤ maxLen := by
  rcases h with ⟨rfl, rfl, rfl, rfl⟩ | ⟨x, rfl, hl, hm, hz, hc, hw⟩
  · exact ⟨.inl rfl, fun j => by simp, fun _ => rfl, Nat.zero_le _⟩
  · refine ⟨?_, ?_, fun e => (by cases e), by omega⟩
    · by_cases h0 : len = 0
      · exact .inl h0
      · obtain ⟨b, off, spot⟩ := x
        have hspot : spot = none := by simpa [Addr.add] using World.cell?_spot (hc 0 (by omega))
        subst hspot
        exact .inr ⟨b, off, rfl, fun k hk => by rw [← add_plain]; exact hc k (by omega)⟩
    · intro j
      by_cases hj : j < zs.length
      · have e : zs.getD j 0 = zs[j] := by simp [hj]
        simp only [e]
        exact bounds_i64 (hw _ (List.getElem_mem hj))
      · have e : zs.getD j 0 = 0 := by simp [List.getD, List.getElem?_eq_none (Nat.not_lt.1 hj)]
        simp only [e]
        omega

set_option maxRecDepth 100000 in
set_option maxHeartbeats 1000000 in
/-- The law's guards that end it at once. -/
theorem early (a0 : Option Addr) (n0 c0 : Nat) (a1 : Option Addr) (n1 c1 : Nat) (h x : Int) (u : Bool) (w : World) (hn0 : n0 ≤ maxLen) (hn1 : n1 ≤ maxLen)
    (hc : 65536 < n0 ∨ 65536 < n1 ∨ n0 ≠ n1 ∨ h < 0 ∨ (n0 : Int) < h) :
    Calls Try.prog 3 #[.slice a0 n0 c0, .slice a1 n1 c1, .int .i64 h, .int .i64 x, .bool u] w fun e w' => e = .returned (.bool true) ∧ Below w.heap.size w w' := by
  have C := Reads.hide hc
  clear hc
  by_cases k0 : (65536 : Int) < n0
  · go_enter Try.func3, Try.ntmps3
    go_wp2_with fail
    refine (Reads.bytes7 a0 n0 c0 a1 n1 c1 h x u _ hn0 hn1).mono ?_
    rintro e w' ⟨⟨b, rfl, hb⟩, rfl⟩
    cases b
    all_goals
      go_wp2
      go_ret
      exact ⟨rfl, Below.refl _ _⟩
  by_cases k1 : (65536 : Int) < n1
  · go_enter Try.func3, Try.ntmps3
    go_wp2_with fail
    refine (Reads.bytes7 a0 n0 c0 a1 n1 c1 h x u _ hn0 hn1).mono ?_
    rintro e w' ⟨⟨b, rfl, hb⟩, rfl⟩
    cases b
    all_goals
      go_wp2
      go_ret
      exact ⟨rfl, Below.refl _ _⟩
  by_cases k2 : n0 = n1
  · by_cases k3 : h < 0
    · subst k2
      go_enter Try.func3, Try.ntmps3
      go_wp2_with fail
      refine (Reads.bytes7 a0 n0 c0 a1 n0 c1 h x u _ hn0 hn1).mono ?_
      rintro e w' ⟨⟨b, rfl, hb⟩, rfl⟩
      cases b
      all_goals
        go_wp2
        go_ret
        exact ⟨rfl, Below.refl _ _⟩
    · have k4 : (n0 : Int) < h := by have := Reads.unhide C; omega
      subst k2
      go_enter Try.func3, Try.ntmps3
      go_wp2_with fail
      refine (Reads.bytes7 a0 n0 c0 a1 n0 c1 h x u _ hn0 hn1).mono ?_
      rintro e w' ⟨⟨b, rfl, hb⟩, rfl⟩
      cases b
      all_goals
        go_wp2
        go_ret
        exact ⟨rfl, Below.refl _ _⟩
  · have d1 : ((n0 : Int) == (n1 : Int)) = false := beq_eq_false_iff_ne.2 (by omega)
    have d2 : ((n0 : Int) != (n1 : Int)) = true := by rw [bne_iff_ne]; omega
    clear k2
    go_enter Try.func3, Try.ntmps3
    go_wp2_with fail
    refine (Reads.bytes7 a0 n0 c0 a1 n1 c1 h x u _ hn0 hn1).mono ?_
    rintro e w' ⟨⟨b, rfl, hb⟩, rfl⟩
    cases b
    all_goals
      go_wp2
      go_ret
      exact ⟨rfl, Below.refl _ _⟩

theorem walk (a0 : Option Addr) (len0 cap0 : Nat) (z0 : List Int) (a1 : Option Addr) (len1 cap1 : Nat) (z1 : List Int) (a2 : Int) (a3 : Int) (a4 : Bool) (w : World) (w0 : IsRow .i64 w a0 len0 cap0 z0) (w1 : IsRow .i64 w a1 len1 cap1 z1) (w2 : (Lit.int .i64 a2).wf = true) (w3 : (Lit.int .i64 a3).wf = true) :
    Calls Try.prog 3 #[.slice a0 len0 cap0, .slice a1 len1 cap1, .int .i64 a2, .int .i64 a3, .bool a4] w fun e w' => e = .returned (.bool true) ∧ Below w.heap.size w w' := by
  obtain ⟨I0, F0, E0, M0⟩ := ints_of w0
  obtain ⟨I1, F1, E1, M1⟩ := ints_of w1
  obtain ⟨x0, x1⟩ := bounds_i64 w3
  by_cases hc : 65536 < len0 ∨ 65536 < len1 ∨ len0 ≠ len1 ∨ a2 < 0 ∨ (len0 : Int) < a2
  · exact early a0 len0 cap0 a1 len1 cap1 a2 a3 a4 w M0 M1 hc
  obtain rfl : len0 = len1 := by omega
  obtain ⟨h, rfl⟩ := Int.eq_ofNat_of_zero_le (show 0 ≤ a2 by omega)
  by_cases hh : h = len0
  · subst hh
    exact Empty.walk_none a0 a1 cap0 cap1 h a3 a4 _ _ w (by omega) F0 F1 E0 E1 I0 I1 x0 x1
  · obtain ⟨m, rfl⟩ : ∃ m, len0 = m + 1 := ⟨len0 - 1, by omega⟩
    cases a4
    · exact Law.live_one a0 a1 cap0 cap1 m h a3 _ _ w (by omega) (by omega) F0 F1 I0 I1 x0 x1
    · exact Law.live_all a0 a1 cap0 cap1 m h a3 _ _ w (by omega) (by omega) F0 F1 I0 I1 x0 x1

/-! ### THE ROW's STEP: WRITTEN OUT: LEAVE IT -/
set_option maxRecDepth 100000 in
theorem lifted (os : Os) (started : os.Started) (H : Type) (enc : TypeId × Value → H) :
    ReturnsInHanded {} Try.checked os 3 .any (Rows.fnCountingSetEnterAddsIndexToLiveSetSpec.pre6 enc Try.prog Try.f3 Rows.fnCountingSetEnterAddsIndexToLiveSetRow.domain false) (Rows.fnCountingSetEnterAddsIndexToLiveSetSpec.post enc Try.prog Try.f3 false true false false) := by
  refine returnsInHanded_of_change (C := Try.checked) own started (by kernel_rfl) Try.func3
    (ChangeSpec.witness6 (enc := enc) (C := Try.checked) false ⟨#[], #[.slice none 0 0, .slice none 0 0, .int .i64 0, .int .i64 0, .bool false], []⟩ 8 (by kernel_rfl) (by kernel_rfl) (by kernel_rfl) (by kernel_rfl)) ?_
  intro W base args ds gs before hval0 hW hcnd _
  have hval : ∀ (j : Nat) t v, Try.f3.params[j]? = some t → args[j]? = some v → Value.okWide Try.prog W .any base t v := hval0
  have hW' := hW
  obtain ⟨p, q, hA0, hV, rfl, hfz, hnd⟩ := hW
  have hA : DataW.TrodAll enc Try.prog W 0 (fun _ => true) true Try.f3.params.toList args.toList ds p := hA0
  rw [Try.params3] at hA hval
  obtain ⟨v0, vs0, d0, ds0, p0, q0, hargs, rfl, rfl, h0, r0⟩ := trodAll_cons hA
  obtain ⟨v1, vs1, d1, ds1, p1, q1, rfl, rfl, rfl, h1, r1⟩ := trodAll_cons r0
  obtain ⟨v2, vs2, d2, ds2, p2, q2, rfl, rfl, rfl, h2, r2⟩ := trodAll_cons r1
  obtain ⟨v3, vs3, d3, ds3, p3, q3, rfl, rfl, rfl, h3, r3⟩ := trodAll_cons r2
  obtain ⟨v4, vs4, d4, ds4, p4, q4, rfl, rfl, rfl, h4, r4⟩ := trodAll_cons r3
  obtain ⟨rfl, rfl, rfl⟩ := trodAll_nil r4
  obtain rfl : args = #[v0, v1, v2, v3, v4] := by cases args; simp_all
  obtain ⟨rfl, rfl⟩ := trodVars_none hV
  obtain ⟨a0, len0, cap0, rfl⟩ := okWide_slice Try.underlying22 (hval 0 22 v0 rfl rfl)
  have k0 := h0
  have lt0 : ∀ x ∈ p0, x.block < W.heap.size := by obtain ⟨m, hm⟩ := k0; exact DataW.trod_lt m _ _ _ hm
  obtain ⟨z0, w0⟩ : ∃ zs, IsRow .i64 W a0 len0 cap0 zs := by
    obtain ⟨fuel, hf⟩ := h0
    rcases open_ints Try.underlying22 Try.underlying3 (by kernel_rfl) hf with ⟨hcs, _⟩ | ⟨x, l, c, zs, hcs, _, hl, hm, hz, _, hcell, hwz⟩
    · simp [Value.cells] at hcs
      obtain ⟨rfl, rfl, rfl⟩ := hcs
      exact ⟨[], .inl ⟨rfl, rfl, rfl, rfl⟩⟩
    · simp [Value.cells] at hcs
      obtain ⟨rfl, rfl, rfl⟩ := hcs
      exact ⟨zs, .inr ⟨_, rfl, hl, hm, by simpa using hz, hcell, hwz⟩⟩
  obtain ⟨a1, len1, cap1, rfl⟩ := okWide_slice Try.underlying22 (hval 1 22 v1 rfl rfl)
  have k1 := h1
  have lt1 : ∀ x ∈ p1, x.block < W.heap.size := by obtain ⟨m, hm⟩ := k1; exact DataW.trod_lt m _ _ _ hm
  obtain ⟨z1, w1⟩ : ∃ zs, IsRow .i64 W a1 len1 cap1 zs := by
    obtain ⟨fuel, hf⟩ := h1
    rcases open_ints Try.underlying22 Try.underlying3 (by kernel_rfl) hf with ⟨hcs, _⟩ | ⟨x, l, c, zs, hcs, _, hl, hm, hz, _, hcell, hwz⟩
    · simp [Value.cells] at hcs
      obtain ⟨rfl, rfl, rfl⟩ := hcs
      exact ⟨[], .inl ⟨rfl, rfl, rfl, rfl⟩⟩
    · simp [Value.cells] at hcs
      obtain ⟨rfl, rfl, rfl⟩ := hcs
      exact ⟨zs, .inr ⟨_, rfl, hl, hm, by simpa using hz, hcell, hwz⟩⟩
  obtain ⟨a2, rfl, rfl, rfl, w2⟩ := open_int Try.underlying3 (hval 2 3 v2 rfl rfl) h2
  obtain ⟨a3, rfl, rfl, rfl, w3⟩ := open_int Try.underlying3 (hval 3 3 v3 rfl rfl) h3
  obtain ⟨a4, rfl, rfl, rfl⟩ := open_bool Try.underlying4 (hval 4 4 v4 rfl rfl) h4
  clear hA0 hval0
  refine (walk a0 len0 cap0 z0 a1 len1 cap1 z1 a2 a3 a4 W w0 w1 w2 w3).mono fun e W' ⟨he, bel⟩ => ?_
  subst he
  exact ⟨_, rfl, _, _, _, [], _, [], hW', trodAll_mk1 (shut_bool Try.underlying4 _), (trodAll_cons_mk (Below.trod laidOut (by kernel_rfl) (of_decide_eq_true (by kernel_rfl)) k0 bel lt0) (trodAll_cons_mk (Below.trod laidOut (by kernel_rfl) (of_decide_eq_true (by kernel_rfl)) k1 bel lt1) (trodAll_cons_mk (shut_int Try.underlying3 w2) (trodAll_cons_mk (shut_int Try.underlying3 w3) (trodAll_cons_mk (shut_bool Try.underlying4 _) trodAll_mk0))))), rfl, bel.frame _, fun h => by cases h⟩

theorem over : Rows.fnCountingSetEnterAddsIndexToLiveSetRow.holds Try.pinned (OpenSpec.ofChange Rows.fnCountingSetEnterAddsIndexToLiveSetSpec) :=
  OpenClaim.holds_of_wide 3 Try.f3 rfl rfl rfl rfl rfl rfl rfl ⟨rfl, rfl, rfl, rfl, rfl⟩ rfl rfl rfl rfl rfl (by kernel_rfl) Try.func3 (by kernel_rfl)
    (of_decide_eq_true (by kernel_rfl)) (by unfold Func.isWrapper; first | (rw [if_pos (by decide +kernel)]; kernel_rfl) | (rw [if_neg (by decide +kernel)]; exact ⟨rfl, rfl⟩))
    (fun os started H enc _ => lifted os started H enc)

/-- ████ THE STATEMENT ████ -/
theorem proved : Rows.FnCountingSetEnterAddsIndexToLiveSetSaid := over
end Go.Proofs.Qxb6602619a.fnCountingSetEnterAddsIndexToLiveSet
