/- 'Rows.FnNameAtByScanSaid' proved: the walk over the contracts of Qxb6604591aParts, then the row's step (after the kit's skeleton for slices, turned to a slice of strings). -/
import Derived.Test.Qxb6604591aRows
import Derived.Test.Qxb6604591aParts
import Derived.WalkKit
import Derived.ProofKit
import Derived.OpenShut
import Derived.ShutString
import Derived.ChangeOld
import Derived.Below
import Derived.SliceStrings
namespace Go.Proofs.Qxb6604591a.fnNameAtByScan
open Go.ChangeShapes Go.WideShapes Go.ChangeAt Go.RowKit
open Go.ChangeMaps (open_string shut_string)
open Parts
set_option linter.unusedVariables false

theorem own : ownKnob Try.prog.godebug = none := by kernel_rfl
theorem laidOut : laidOutB Try.prog = true := by kernel_rfl
theorem cells9 : Try.prog.cellsOf 9 = 1 := by kernel_rfl

set_option maxHeartbeats 400000 in
theorem walk_nil (cap0 : Nat) (n : Int) (w : World) :
    Calls Try.prog 5 #[.slice none 0 cap0, .int .i64 n] w fun e w' => e = .returned (.bool true) ∧ Below w.heap.size w w' := by
  have hS : ∀ w, Strs w none 0 (fun _ => ⟨#[]⟩) := fun _ => .inl rfl
  go_enter Try.func5, Try.ntmps5
  go_wp2_with fail
  refine (bytes13 none 0 cap0 (fun _ => ⟨#[]⟩) n _ (Nat.zero_le _) (hS _)).mono ?_
  rintro e w' ⟨⟨b, rfl, hb⟩, rfl⟩
  cases b
  · go_wp2
    go_ret
    exact ⟨rfl, Below.refl _ _⟩
  go_wp2_with fail
  refine (tooBig none 0 cap0 (fun _ => ⟨#[]⟩) _ _ (Nat.zero_le _) (hS _)).mono ?_
  rintro e w' ⟨⟨b, rfl, hb⟩, rfl⟩
  cases b
  · go_wp2_with fail
    refine (copy_nil _ _ _).mono ?_
    rintro e w' ⟨rfl, rfl⟩
    go_wp2_with fail
    refine (zzNameAt none 0 0 (fun _ => ⟨#[]⟩) n _ (Nat.zero_le _) (hS _)).mono ?_
    rintro e w' ⟨rfl, rfl⟩
    go_wp2_with fail
    refine (scanAt none 0 0 (fun _ => ⟨#[]⟩) n _ (Nat.zero_le _) (hS _)).mono ?_
    rintro e w' ⟨rfl, rfl⟩
    go_wp2
    go_ret
    exact ⟨rfl, Below.refl _ _⟩
  · go_wp2
    go_ret
    exact ⟨rfl, Below.refl _ _⟩

set_option maxHeartbeats 400000 in
theorem walk_some (x : Addr) (len0 cap0 : Nat) (S : Nat → ByteArray) (n : Int) (w : World) (hm : len0 ≤ maxLen) (hS : Strs w (some x) len0 S) :
    Calls Try.prog 5 #[.slice (some x) len0 cap0, .int .i64 n] w fun e w' => e = .returned (.bool true) ∧ Below w.heap.size w w' := by
  go_enter Try.func5, Try.ntmps5
  go_wp2_with fail
  refine (bytes13 (some x) len0 cap0 S n _ hm hS).mono ?_
  rintro e w' ⟨⟨b, rfl, hb⟩, rfl⟩
  cases b
  · go_wp2
    go_ret
    exact ⟨rfl, Below.refl _ _⟩
  go_wp2_with fail
  refine (tooBig (some x) len0 cap0 S _ _ hm hS).mono ?_
  rintro e w' ⟨⟨b, rfl, hb⟩, rfl⟩
  cases b
  · have hlen := hb rfl
    clear hb
    go_wp2_with fail
    refine (copy_some x len0 cap0 S _ hlen hS).mono ?_
    rintro e w1 ⟨rfl, hrow, hbel⟩
    have hS1 : Strs w1 (some ⟨w'.heap.size, 0, none⟩) len0 S := .inr ⟨_, 0, rfl, fun k hk => by simpa using hrow.cell hk⟩
    go_wp2_with fail
    refine (zzNameAt (some ⟨w'.heap.size, 0, none⟩) len0 len0 S n _ hm hS1).mono ?_
    rintro e w2 ⟨rfl, rfl⟩
    go_wp2_with fail
    refine (scanAt (some ⟨w'.heap.size, 0, none⟩) len0 len0 S n _ hm hS1).mono ?_
    rintro e w3 ⟨rfl, rfl⟩
    go_wp2
    go_ret
    exact ⟨rfl, hbel⟩
  · go_wp2
    go_ret
    exact ⟨rfl, Below.refl _ _⟩

/-- What the reading of a '[]string' argument tells the walk. -/
theorem open_row {H : Type} {enc : TypeId × Value → H} {W : World} {a0 : Option Addr} {len0 cap0 : Nat} {d : DataW H} {p : List MemPlace}
    (h : DataW.Trod enc Try.prog W 0 (fun _ => true) true 30 (.slice a0 len0 cap0) d p) :
    len0 ≤ maxLen ∧ (a0 = none → len0 = 0) ∧ ∃ S, Strs W a0 len0 S := by
  obtain ⟨fuel, hf⟩ := h
  rcases open_strings Try.underlying30 Try.underlying9 cells9 hf with ⟨hcs, _⟩ | ⟨x, l, c, ss, hcs, _, hl, hm, hz, _, hcell, _⟩
  · simp [Value.cells] at hcs
    obtain ⟨rfl, rfl, rfl⟩ := hcs
    exact ⟨Nat.zero_le _, fun _ => rfl, fun _ => ⟨#[]⟩, .inl rfl⟩
  · simp [Value.cells] at hcs
    obtain ⟨rfl, rfl, rfl⟩ := hcs
    refine ⟨by omega, fun h => (by cases h), fun i => ss.getD i ByteArray.empty, ?_⟩
    by_cases h0 : len0 = 0
    · exact .inl h0
    · simp only [if_true] at hz
      obtain ⟨b, off, spot⟩ := x
      have hspot : spot = none := by simpa [Addr.add] using World.cell?_spot (hcell 0 (by omega))
      subst hspot
      exact .inr ⟨b, off, rfl, fun k hk => by rw [← add_plain]; exact hcell k (by omega)⟩

set_option maxRecDepth 100000 in
theorem lifted (os : Os) (started : os.Started) (H : Type) (enc : TypeId × Value → H) :
    ReturnsInHanded {} Try.checked os 5 .any (Rows.fnNameAtByScanSpec.pre6 enc Try.prog Try.f5 Rows.fnNameAtByScanRow.domain false) (Rows.fnNameAtByScanSpec.post enc Try.prog Try.f5 false true false false) := by
  refine returnsInHanded_of_change (C := Try.checked) own started (by kernel_rfl) Try.func5
    (ChangeSpec.witness6 (enc := enc) (C := Try.checked) false ⟨#[], #[.slice none 0 0, .int .i64 0], []⟩ 8 (by kernel_rfl) (by kernel_rfl) (by kernel_rfl) (by kernel_rfl)) ?_
  intro W base args ds gs before hval0 hW hcnd _
  have hval : ∀ (j : Nat) t v, Try.f5.params[j]? = some t → args[j]? = some v → Value.okWide Try.prog W .any base t v := hval0
  have hW' := hW
  obtain ⟨p, q, hA0, hV, rfl, hfz, hnd⟩ := hW
  have hA : DataW.TrodAll enc Try.prog W 0 (fun _ => true) true Try.f5.params.toList args.toList ds p := hA0
  rw [Try.params5] at hA hval
  obtain ⟨v0, vs0, d0, ds0, p0, q0, hargs, rfl, rfl, h0, r0⟩ := trodAll_cons hA
  obtain ⟨v1, vs1, d1, ds1, p1, q1, rfl, rfl, rfl, h1, r1⟩ := trodAll_cons r0
  obtain ⟨rfl, rfl, rfl⟩ := trodAll_nil r1
  obtain rfl : args = #[v0, v1] := by cases args; simp_all
  obtain ⟨rfl, rfl⟩ := trodVars_none hV
  obtain ⟨a0, len0, cap0, rfl⟩ := okWide_slice Try.underlying30 (hval 0 30 v0 rfl rfl)
  have k0 := h0
  have lt0 : ∀ x ∈ p0, x.block < W.heap.size := by obtain ⟨m, hm⟩ := k0; exact DataW.trod_lt m _ _ _ hm
  obtain ⟨hm0, hn0, S, w0⟩ := open_row h0
  obtain ⟨a1, rfl, rfl, rfl, w1⟩ := open_int Try.underlying3 (hval 1 3 v1 rfl rfl) h1
  clear hA0 hval0
  have hwalk : Calls Try.prog 5 #[.slice a0 len0 cap0, .int .i64 a1] W fun e w' => e = .returned (.bool true) ∧ Below W.heap.size W w' := by
    cases a0 with
    | none => rw [hn0 rfl]; exact walk_nil cap0 a1 W
    | some x => exact walk_some x len0 cap0 S a1 W hm0 w0
  refine hwalk.mono fun e W' ⟨he, bel⟩ => ?_
  subst he
  exact ⟨_, rfl, _, _, _, [], _, [], hW', trodAll_mk1 (shut_bool Try.underlying4 _), (trodAll_cons_mk (Below.trod laidOut (by kernel_rfl) (of_decide_eq_true (by kernel_rfl)) k0 bel lt0) (trodAll_cons_mk (shut_int Try.underlying3 w1) trodAll_mk0)), rfl, bel.frame _, fun h => by cases h⟩

theorem over : Rows.fnNameAtByScanRow.holds Try.pinned (OpenSpec.ofChange Rows.fnNameAtByScanSpec) :=
  OpenClaim.holds_of_wide 5 Try.f5 rfl rfl rfl rfl rfl rfl rfl ⟨rfl, rfl, rfl, rfl, rfl⟩ rfl rfl rfl rfl rfl (by kernel_rfl) Try.func5 (by kernel_rfl)
    (of_decide_eq_true (by kernel_rfl)) (by unfold Func.isWrapper; first | (rw [if_pos (by decide +kernel)]; kernel_rfl) | (rw [if_neg (by decide +kernel)]; exact ⟨rfl, rfl⟩))
    (fun os started H enc _ => lifted os started H enc)

/-- ████ THE STATEMENT ████ -/
theorem proved : Rows.FnNameAtByScanSaid := over
end Go.Proofs.Qxb6604591a.fnNameAtByScan
