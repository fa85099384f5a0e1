import Derived.Test.Qxb6603061aRows
import Derived.Test.Qxb6603061aPlain
import Derived.WalkKit
import Derived.WalkLawsBesides
import Derived.RegionTactic
import Derived.ProofKit
import Derived.Outline
import Derived.Laws.BitsAll
namespace Go.Proofs.Qxb6603061a.Parts
open Go.ChangeShapes Go.WideShapes Go.ChangeAt Go.RowKit
set_option linter.unusedVariables false

theorem ret_int {k : IntKind} {a b : Int} (h : a = b) : Ending.returned (.int k a) = .returned (.int k b) := by rw [h]

theorem xor_bias (t : Int) (t0 : -9223372036854775808 ≤ t) (t1 : t ≤ 9223372036854775807) :
    bits BinOp.xor IntKind.u64 (IntKind.u64.wrap t) 9223372036854775808 = t + 9223372036854775808 := by
  rw [IntKind.wrap_u64]
  have h0 : 0 ≤ t % 18446744073709551616 := by omega
  obtain ⟨a, ha⟩ := Int.eq_ofNat_of_zero_le h0
  have h := u64_xor_nat a 9223372036854775808 (by omega) (by omega)
  rw [Plain.xor63 a (by omega)] at h
  rw [ha]
  refine Eq.trans h ?_
  split <;> omega

set_option maxHeartbeats 400000 in
theorem phase (b o : Nat) (p q t : Int) (w : World) (hp : 0 < p) (hq : 0 < q) (hs : p + q ≤ 9223372036854775807)
    (c0 : w.cell? ⟨b, o, none⟩ = some (.int .i64 p)) (c1 : w.cell? ⟨b, o + 1, none⟩ = some (.int .i64 q)) :
    Calls Try.prog 8 #[.pointer (some ⟨b, o, none⟩), .int .i64 t] w fun e w' => e = .returned (.int .i64 (t % (p + q))) ∧ w' = w.drew := by
  have hl := Plain.lifted t (p + q) (by omega)
  have hr := Plain.range t (p + q) (by omega)
  go_enter Try.func8, Try.ntmps8
  go_wp2
  go_region
  all_goals go_wp2
  · go_ret
    exact ⟨rfl, rfl⟩
  · go_ret
    exact ⟨ret_int (hl.2 (by omega)), rfl⟩

set_option maxHeartbeats 400000 in
theorem zzmod (t m : Int) (w : World) (hm : 0 < m) (hs : m ≤ 9223372036854775807)
    (t0 : -9223372036854775808 ≤ t) (t1 : t ≤ 9223372036854775807) :
    Calls Try.prog 9 #[.int .i64 t, .int .i64 m] w fun e w' => e = .returned (.int .i64 (t % m)) ∧ w' = w := by
  have hx := xor_bias t t0 t1
  have hr := Plain.range (t + 9223372036854775808) m hm
  have hb := Plain.range 9223372036854775808 m hm
  have hl := Plain.shifted t m _ _ hm rfl rfl
  go_enter Try.func9, Try.ntmps9
  go_wp2
  all_goals (go_ret; exact ⟨rfl, rfl⟩)

/-- 'Phase', its answer under a name. -/
theorem phaseN (b o : Nat) (p q t n : Int) (w : World) (HN : Hid (n = t % (p + q))) (hp : 0 < p) (hq : 0 < q) (hs : p + q ≤ 9223372036854775807)
    (c0 : w.cell? ⟨b, o, none⟩ = some (.int .i64 p)) (c1 : w.cell? ⟨b, o + 1, none⟩ = some (.int .i64 q)) :
    Calls Try.prog 8 #[.pointer (some ⟨b, o, none⟩), .int .i64 t] w fun e w' => e = .returned (.int .i64 n) ∧ w' = w.drew := by
  rw [HN.out]
  exact phase b o p q t w hp hq hs c0 c1

/-- One step round the cycle. -/
def stepOf (x m : Int) : Int := if x = m - 1 then 0 else x + 1
theorem zzstep (x m : Int) (w : World) (h0 : 0 ≤ x) (h1 : x < m) (hs : m ≤ 9223372036854775807) :
    Calls Try.prog 10 #[.int .i64 x, .int .i64 m] w fun e w' => e = .returned (.int .i64 (stepOf x m)) ∧ w' = w := by
  unfold stepOf
  by_cases h : x = m - 1
  · have hb : (x == m - 1) = true := beq_iff_eq.2 h
    rw [if_pos h]
    clear h
    go_enter Try.func10, Try.ntmps10
    go_wp2
    go_ret
    exact ⟨rfl, rfl⟩
  · have hb : (x == m - 1) = false := beq_eq_false_iff_ne.2 h
    rw [if_neg h]
    go_enter Try.func10, Try.ntmps10
    go_wp2
    go_ret
    exact ⟨rfl, rfl⟩

/-- Does q lie in the cyclic range from f to l? -/
def inCycle (q f l : Int) : Bool := if f ≤ l then decide (f ≤ q) && decide (q ≤ l) else decide (f ≤ q) || decide (q ≤ l)
theorem zzincycle (q f l : Int) (w : World) :
    Calls Try.prog 12 #[.int .i64 q, .int .i64 f, .int .i64 l] w fun e w' => e = .returned (.bool (inCycle q f l)) ∧ w' = w := by
  unfold inCycle
  by_cases h : f ≤ l
  all_goals
    by_cases h1 : f ≤ q
    all_goals
      by_cases h2 : q ≤ l
      all_goals
        simp only [h, h1, h2, if_true, if_false, decide_true, decide_false, Bool.and_true, Bool.and_false, Bool.or_true, Bool.or_false]
        go_enter Try.func12, Try.ntmps12
        go_wp2
        go_ret
        exact ⟨rfl, rfl⟩

/-- The last open phase. -/
def lastOf (p q n : Int) : Int := if n < p then n + q else n - p
set_option maxHeartbeats 400000 in
theorem openPhases (b o : Nat) (p q t : Int) (w : World) (hp : 0 < p) (hq : 0 < q) (hs : p + q ≤ 9223372036854775807)
    (c0 : w.cell? ⟨b, o, none⟩ = some (.int .i64 p)) (c1 : w.cell? ⟨b, o + 1, none⟩ = some (.int .i64 q)) :
    Calls Try.prog 11 #[.pointer (some ⟨b, o, none⟩), .int .i64 t] w fun e w' => ∃ f l : Int, e = .returned (.tuple #[.int .i64 f, .int .i64 l]) ∧
      (0 ≤ f ∧ f < p + q ∧ 0 ≤ l ∧ l < p + q) ∧ Hid (f = stepOf (t % (p + q)) (p + q) ∧ l = lastOf p q (t % (p + q))) ∧ w' = w.drew.drew.drew := by
  have hr := Plain.range t (p + q) (by omega)
  have hst := Plain.step (t % (p + q)) (p + q) (by omega)
  rw [Int.emod_emod] at hst
  obtain ⟨n, hn⟩ : ∃ n, n = t % (p + q) := ⟨_, rfl⟩
  rw [← hn] at hr hst
  have hf : (n + 1) % (p + q) = stepOf n (p + q) := by
    unfold stepOf; split
    · exact hst.1 ‹_›
    · exact hst.2 ‹_›
  have hfr := Plain.range (n + 1) (p + q) (by omega)
  have HN : Hid (n = t % (p + q)) := hn
  have HF : Hid ((n + 1) % (p + q) = stepOf n (p + q)) := hf
  clear hn hf hst
  by_cases hlt : n < p
  all_goals
    go_enter Try.func11, Try.ntmps11
    go_wp2_with (go_at_call 8; refine (phaseN _ _ p q t n _ HN hp hq hs c0 c1).mono ?_; rintro e w' ⟨rfl, rfl⟩)
    go_region
    go_wp2
    go_region
    go_wp2
    go_ret2
    refine ⟨_, _, rfl, ⟨by omega, by omega, by omega, by omega⟩, ⟨?_, ?_⟩, rfl⟩
    · rw [← HN.out]; exact HF.out
    · rw [← HN.out]; unfold lastOf; split <;> omega

/-! ### The plain laws that the five walks lean on -/
theorem stepOf_mod (t m : Int) (hm : 0 < m) : stepOf (t % m) m = (t + 1) % m := by
  have h := Plain.step t m hm
  unfold stepOf
  split
  · exact (h.1 ‹_›).symm
  · exact (h.2 ‹_›).symm

theorem count_neg {p q n f l : Int} (hq : 0 < q) (hr : 0 ≤ n ∧ n < p + q) (hf : f = stepOf n (p + q)) (hl : l = lastOf p q n) (hc : l - f < 0) : l - f + (p + q) + 1 = q := by
  subst hf hl
  unfold stepOf lastOf at *
  split at hc <;> split at hc
  all_goals (repeat' split)
  all_goals omega
theorem count_pos {p q n f l : Int} (hp : 0 < p) (hq : 0 < q) (hf : f = stepOf n (p + q)) (hl : l = lastOf p q n) (hc : ¬ l - f < 0) : l - f + 1 = q := by
  subst hf hl
  unfold stepOf lastOf at *
  split at hc <;> split at hc
  all_goals (repeat' split)
  all_goals omega

theorem adv_first {m t f g : Int} (hm : 0 < m) (hf : f = stepOf (t % m) m) (hg : g = stepOf ((t + 1) % m) m) : g = stepOf f m := by
  rw [hf, hg, stepOf_mod t m hm]
theorem adv_last {p q t l k : Int} (hp : 0 < p) (hq : 0 < q) (hr : 0 ≤ t % (p + q) ∧ t % (p + q) < p + q) (hl : l = lastOf p q (t % (p + q))) (hk : k = lastOf p q ((t + 1) % (p + q))) : k = stepOf l (p + q) := by
  rw [hl, hk, ← stepOf_mod t (p + q) (by omega)]
  generalize t % (p + q) = n at *
  unfold stepOf lastOf
  repeat' split
  all_goals omega

theorem exact_neg {p q n x f l : Int} (hp : 0 < p) (hq : 0 < q) (hm : 0 ≤ x ∧ x < p + q) (hf : f = stepOf n (p + q)) (hl : l = lastOf p q n) (hc : n - x < 0) :
    (inCycle x f l == decide (p ≤ n - x + (p + q))) = true := by
  rw [beq_iff_eq]; subst hf hl; unfold inCycle stepOf lastOf
  repeat' split
  all_goals (rw [Bool.eq_iff_iff]; simp; omega)
theorem exact_pos {p q n x f l : Int} (hp : 0 < p) (hq : 0 < q) (hm : 0 ≤ x ∧ x < p + q) (hf : f = stepOf n (p + q)) (hl : l = lastOf p q n) (hc : ¬ n - x < 0) :
    (inCycle x f l == decide (p ≤ n - x)) = true := by
  rw [beq_iff_eq]; subst hf hl; unfold inCycle stepOf lastOf
  repeat' split
  all_goals (rw [Bool.eq_iff_iff]; simp; omega)
end Go.Proofs.Qxb6603061a.Parts
