/- The walk of 'FnNameAtShiftsUnderPrepend' over the contracts of Qxb6604591aParts. -/
import Derived.Test.Qxb6604591aParts
import Derived.OwnWalk
namespace Go.Proofs.Qxb6604591a.Prepend
open Go.ChangeShapes Go.WideShapes Go.ChangeAt Go.RowKit
open Parts
set_option linter.unusedVariables false

/-- The row of 'pre' behind k rounds. -/
def vals (h : ByteArray) (S : Nat → ByteArray) (k : Nat) : List Value := .string h :: (List.range k).map (fun j => .string (S j))
theorem vals_succ (h : ByteArray) (S : Nat → ByteArray) (k : Nat) : vals h S k ++ [.string (S k)] = vals h S (k + 1) := by
  unfold vals; rw [List.range_succ, List.map_append]; simp
/-- The names of 'pre'. -/
def T (h : ByteArray) (S : Nat → ByteArray) (j : Nat) : ByteArray := if j = 0 then h else S (j - 1)
theorem vals_at (h : ByteArray) (S : Nat → ByteArray) (k j : Nat) (hj : j < k + 1) : (vals h S k)[j]? = some (.string (T h S j)) := by
  unfold vals T
  cases j with
  | zero => simp
  | succ m => have hm : m < k := by omega
              simp [hm]

theorem strs_of_own {wr : World} {B k len : Nat} {h : ByteArray} {S : Nat → ByteArray} (hown : wr.ownsRow B 9 1 (.slice (some ⟨B, 0, none⟩) (k + 1) (len + 1)) (k + 1) (vals h S k)) :
    Strs wr (some ⟨B, 0, none⟩) (k + 1) (T h S) :=
  .inr ⟨B, 0, rfl, fun j hj => by rw [Nat.zero_add, hown.cellAt j (by omega)]; exact vals_at h S k j hj⟩

theorem strs_below {w1 wr : World} {B len : Nat} {a : Option Addr} {S : Nat → ByteArray} (hS : Strs w1 a len S) (hb : Below B w1 wr) (hB : B = w1.heap.size) : Strs wr a len S := by
  rcases hS with h | ⟨b, off, rfl, hc⟩
  · exact .inl h
  · exact .inr ⟨b, off, rfl, fun k hk => (hb.cell (by rw [hB]; exact strs_lt (hc k hk))).trans (hc k hk)⟩

theorem T_zero (h : ByteArray) (S : Nat → ByteArray) (len : Nat) : nm (T h S) (len + 1) 0 = h := by
  unfold nm; rw [if_pos (by omega)]; rfl
theorem T_neg (h : ByteArray) (S : Nat → ByteArray) (len : Nat) : nm (T h S) (len + 1) (-1) = ⟨#[]⟩ := by
  unfold nm; rw [if_neg (by omega)]
theorem T_end (h : ByteArray) (S : Nat → ByteArray) (len : Nat) : nm (T h S) (len + 1) ((len : Int) + 1) = ⟨#[]⟩ := by
  unfold nm; rw [if_neg (by omega)]
theorem T_shift (h : ByteArray) (S : Nat → ByteArray) (len : Nat) (n : Int) (hn : n ≠ -1) : nm (T h S) (len + 1) (n + 1) = nm S len n := by
  unfold nm
  by_cases h1 : 0 ≤ n ∧ n < (len : Int)
  · rw [if_pos h1, if_pos (by omega)]
    obtain ⟨k, rfl⟩ := Int.eq_ofNat_of_zero_le h1.1
    have e : ((k : Int) + 1).toNat = k + 1 := by omega
    rw [e]; simp [T]
  · rw [if_neg h1, if_neg (by omega)]
theorem T_least (h : ByteArray) (S : Nat → ByteArray) (len : Nat) : nm (T h S) (len + 1) (-9223372036854775808) = ⟨#[]⟩ := by
  unfold nm; rw [if_neg (by omega)]
theorem S_most (S : Nat → ByteArray) (len : Nat) (hl : len ≤ 65536) : nm S len 9223372036854775807 = ⟨#[]⟩ := by
  unfold nm; rw [if_neg (by omega)]

theorem T_wrap (h : ByteArray) (S : Nat → ByteArray) (k len : Nat) (n : Int) (hn : n = 9223372036854775807) (hl : len ≤ 65536) : nm (T h S) (k + 1) (wrap64 (n + 1)) = nm S len n := by
  have e : wrap64 (n + 1) = -9223372036854775808 := by unfold wrap64; omega
  rw [e, T_least, hn, S_most S len hl]
theorem own_lt {w : World} {B n c : Nat} {xs : List Value} (h : w.ownsRow B 9 1 (.slice (some ⟨B, 0, none⟩) n c) n xs) : B < w.heap.size := by
  rcases h.2 with ⟨h', _⟩ | ⟨g', cap', cur, h', _, hg, _⟩
  · simp at h'
  · simp only [Value.slice.injEq, Option.some.injEq, Addr.mk.injEq, and_true, true_and] at h'
    obtain ⟨rfl, rfl⟩ := h'
    obtain ⟨hlt, _⟩ := Array.getElem?_eq_some_iff.1 hg
    exact hlt
theorem one_new (w : World) (s : ByteArray) (t : TypeId) : ∀ j u, ([.string s] : List Value)[j]? = some u → (w.alloc (.cells #[.string s] t)).cell? ((⟨w.heap.size, 0, none⟩ : Addr).add j) = some u := by
  intro j u hj
  match j, hj with
  | 0, hj => simp at hj; subst hj; simp [Addr.add]
theorem one_cell (s : ByteArray) : ∀ u ∈ ([.string s] : List Value), u.oneCell' = true := by
  intro u hu; simp at hu; subst hu; rfl

/-- 'ZZnameAt' at a slice whose answer is known under another name. -/
theorem nameIs (a : Option Addr) (len cap : Nat) (S : Nat → ByteArray) (n : Int) (r : ByteArray) (w : World) (hl : len ≤ maxLen) (hS : Strs w a len S) (hr : nm S len n = r) :
    Calls Try.prog 16 #[.slice a len cap, .int .i64 n] w fun e w' => e = .returned (.string r) ∧ w' = w := by
  rw [← hr]; exact zzNameAt a len cap S n w hl hS

/-- 'zzCopyNames', whatever comes in. -/
theorem copy_any (a : Option Addr) (len cap : Nat) (S : Nat → ByteArray) (w : World) (hn : a = none → len = 0) (hl : len ≤ 65536) (hS : Strs w a len S) :
    Calls Try.prog 15 #[.slice a len cap] w fun e w' => ∃ a' c', e = .returned (.slice a' len c') ∧ Strs w' a' len S ∧ Below w.heap.size w w' := by
  cases a with
  | none =>
    refine (copy_nil len cap w).mono ?_
    rintro e w' ⟨rfl, rfl⟩
    refine ⟨none, 0, ?_, .inl (hn rfl), Below.refl _ _⟩
    rw [hn rfl]
  | some x =>
    refine (copy_some x len cap S w hl hS).mono ?_
    rintro e w1 ⟨rfl, hrow, hbel⟩
    exact ⟨_, _, rfl, .inr ⟨_, 0, rfl, fun k hk => by simpa using hrow.cell hk⟩, hbel⟩

set_option maxHeartbeats 1000000 in
theorem walk (a : Option Addr) (len cap : Nat) (S : Nat → ByteArray) (h : ByteArray) (n : Int) (w : World) (hm : len ≤ maxLen) (hnil : a = none → len = 0) (hS : Strs w a len S)
    (n0 : -9223372036854775808 ≤ n) (n1 : n ≤ 9223372036854775807) (hh : h.size ≤ maxLen) :
    Calls Try.prog 6 #[.slice a len cap, .string h, .int .i64 n] w fun e w' => e = .returned (.bool true) ∧ Below w.heap.size w w' := by
  obtain ⟨i0, hi, hz0, hz1, hz2⟩ := info_parts info9
  have HM := hide hm
  unfold maxLen at hh
  go_enter Try.func6, Try.ntmps6
  go_wp2_with fail
  refine (bytes18 a len cap S h n _ hm hS).mono ?_
  rintro e w' ⟨⟨b, rfl, hb⟩, rfl⟩
  cases b
  · go_wp2
    go_ret
    exact ⟨rfl, Below.refl _ _⟩
  clear hb
  by_cases hsz : (65536 : Int) < h.size
  · go_wp2
    go_ret
    exact ⟨rfl, Below.refl _ _⟩
  go_wp2_with fail
  refine (tooBig a len cap S _ _ hm hS).mono ?_
  rintro e w' ⟨⟨b, rfl, hb⟩, rfl⟩
  cases b
  case true =>
    go_wp2
    go_ret
    exact ⟨rfl, Below.refl _ _⟩
  have hlen := hb rfl
  clear hb
  go_wp2_with fail
  refine (copy_any a len cap S _ hnil hlen hS).mono ?_
  rintro e w1 ⟨a', c', rfl, hS1, hb1⟩
  clear hS hnil hm
  have hSk := hide hS1
  rcases hS1 with h0 | ⟨b, off, ha, hc⟩
  · have h0' : len ≤ 0 := by omega
    clear h0
    go_wp2_with (first | (at_make; refine wpList_make_own _ rfl _ _ 30 rfl w1.heap.size 9 i0 (.string ⟨#[]⟩) 1 Try.underlying30 hi hz0 hz1 _ _ _ (len + 1) rfl rfl (by omega) ?b2 ?b3 (Nat.le_refl _) ?_))
    case b2 => rw [hz2]; omega
    case b3 => unfold maxLen; omega
    intro w2 hown0 hgrow0
    have hz3 : w1.heap.size < w2.heap.size := own_lt hown0
    have hb2 : Below w1.heap.size w1 w2 := (Below.refl _ _).grown hgrow0 (Nat.le_refl _) (fun k h => by cases h)
    go_wp2_with (first | (at_builtin; refine wpList_append_fits _ rfl (.tmp 29) (.tmp 31) 30 rfl w1.heap.size 9 i0 1 Try.underlying30 hi hz1 w1.heap.size 0 (len + 1) _ rfl (hown0.alloc _) ⟨w2.heap.size, 0, none⟩ 1 1 [.string h] rfl rfl (one_new w2 h _) (one_cell h) (by omega) ?_; intro w3 hown1 hgrow1))
    have R0 : w3.ownsRow w1.heap.size 9 1 (.slice (some ⟨w1.heap.size, 0, none⟩) (0 + 1) (len + 1)) (0 + 1) (vals h S 0) := by simpa [vals] using hown1
    have hb3 : Below w1.heap.size w1 w3 := (hb2.alloc (by omega) _).grown hgrow1 (by simp; omega) (fun k h => by cases h; exact Nat.le_refl _)
    clear hown1 hgrow1 hown0 hgrow0 hb2
    go_wp2
    go_loopw [7, 8] (fun v i wr => ∃ k : Nat, k ≤ len ∧ i = .int .i64 k ∧ v = .slice (some ⟨w1.heap.size, 0, none⟩) (k + 1) (len + 1) ∧ wr.ownsRow w1.heap.size 9 1 (.slice (some ⟨w1.heap.size, 0, none⟩) (k + 1) (len + 1)) (k + 1) (vals h S k) ∧ Below w1.heap.size w1 wr) (fun _ i _ => len - (intOf i).toNat)
    case atStart => exact ⟨0, Nat.zero_le _, rfl, rfl, R0, hb3⟩
    case round =>
      obtain ⟨k, hk, rfl, rfl, hown, hbr⟩ := hrel
      by_cases hlt : k < len
      · exact absurd hlt (by omega)
      · have hP := strs_of_own hown
        have hN := strs_below (unhide hSk) hbr rfl
        have hbe : Below w'.heap.size w' wr := hb1.trans (hbr.mono hb1.size)
        have HK := hide (show k = len by omega)
        clear hown hbr
        by_cases hn : n = -1
        · have hnb : (n == -1) = true := beq_iff_eq.2 hn
          clear hn
          go_wp2_with fail
          refine (nameIs (some ⟨w1.heap.size, 0, none⟩) (k + 1) (len + 1) (T h S) 0 h _ (by unfold maxLen; omega) hP (T_zero h S k)).mono ?_
          rintro e w4 ⟨rfl, rfl⟩
          go_wp2_with fail
          refine (nameIs (some ⟨w1.heap.size, 0, none⟩) (k + 1) (len + 1) (T h S) (-1) ⟨#[]⟩ _ (by unfold maxLen; omega) hP (T_neg h S k)).mono ?_
          rintro e w4 ⟨rfl, rfl⟩
          go_wp2_with fail
          refine (nameIs (some ⟨w1.heap.size, 0, none⟩) (k + 1) (len + 1) (T h S) _ ⟨#[]⟩ _ (by unfold maxLen; omega) hP (T_end h S k)).mono ?_
          rintro e w4 ⟨rfl, rfl⟩
          go_wp2
          go_ret
          exact ⟨rfl, hbe⟩
        · have hnb : (n == -1) = false := beq_eq_false_iff_ne.2 hn
          have HQ := hide hn
          clear hn
          by_cases hx : n = 9223372036854775807
          · have HX := hide hx
            have hlow : 9223372036854775806 < n := by omega
            clear hx
            go_wp2_with fail
            refine (nameIs (some ⟨w1.heap.size, 0, none⟩) (k + 1) (len + 1) (T h S) _ (nm S len n) _ (by unfold maxLen; omega) hP (T_wrap h S k len n (unhide HX) hlen)).mono ?_
            rintro e w4 ⟨rfl, rfl⟩
            go_wp2_with fail
            refine (zzNameAt _ len _ S n _ (unhide HM) hN).mono ?_
            rintro e w4 ⟨rfl, rfl⟩
            go_wp2_with fail
            refine (nameIs (some ⟨w1.heap.size, 0, none⟩) (k + 1) (len + 1) (T h S) 0 h _ (by unfold maxLen; omega) hP (T_zero h S k)).mono ?_
            rintro e w4 ⟨rfl, rfl⟩
            go_wp2_with fail
            refine (nameIs (some ⟨w1.heap.size, 0, none⟩) (k + 1) (len + 1) (T h S) (-1) ⟨#[]⟩ _ (by unfold maxLen; omega) hP (T_neg h S k)).mono ?_
            rintro e w4 ⟨rfl, rfl⟩
            go_wp2_with fail
            refine (nameIs (some ⟨w1.heap.size, 0, none⟩) (k + 1) (len + 1) (T h S) _ ⟨#[]⟩ _ (by unfold maxLen; omega) hP (T_end h S k)).mono ?_
            rintro e w4 ⟨rfl, rfl⟩
            go_wp2
            go_ret
            exact ⟨rfl, hbe⟩
          · have hx' : n ≤ 9223372036854775806 := by omega
            clear hx n1
            go_wp2_with fail
            refine (nameIs (some ⟨w1.heap.size, 0, none⟩) (k + 1) (len + 1) (T h S) (n + 1) (nm S len n) _ (by unfold maxLen; omega) hP (by rw [T_shift h S k n (unhide HQ), unhide HK])).mono ?_
            rintro e w4 ⟨rfl, rfl⟩
            go_wp2_with fail
            refine (zzNameAt _ len _ S n _ (unhide HM) hN).mono ?_
            rintro e w4 ⟨rfl, rfl⟩
            go_wp2_with fail
            refine (nameIs (some ⟨w1.heap.size, 0, none⟩) (k + 1) (len + 1) (T h S) 0 h _ (by unfold maxLen; omega) hP (T_zero h S k)).mono ?_
            rintro e w4 ⟨rfl, rfl⟩
            go_wp2_with fail
            refine (nameIs (some ⟨w1.heap.size, 0, none⟩) (k + 1) (len + 1) (T h S) (-1) ⟨#[]⟩ _ (by unfold maxLen; omega) hP (T_neg h S k)).mono ?_
            rintro e w4 ⟨rfl, rfl⟩
            go_wp2_with fail
            refine (nameIs (some ⟨w1.heap.size, 0, none⟩) (k + 1) (len + 1) (T h S) _ ⟨#[]⟩ _ (by unfold maxLen; omega) hP (T_end h S k)).mono ?_
            rintro e w4 ⟨rfl, rfl⟩
            go_wp2
            go_ret
            exact ⟨rfl, hbe⟩
  · subst ha
    go_wp2_with (first | (at_make; refine wpList_make_own _ rfl _ _ 30 rfl w1.heap.size 9 i0 (.string ⟨#[]⟩) 1 Try.underlying30 hi hz0 hz1 _ _ _ (len + 1) rfl rfl (by omega) ?b2 ?b3 (Nat.le_refl _) ?_))
    case b2 => rw [hz2]; omega
    case b3 => unfold maxLen; omega
    intro w2 hown0 hgrow0
    have hz3 : w1.heap.size < w2.heap.size := own_lt hown0
    have hb2 : Below w1.heap.size w1 w2 := (Below.refl _ _).grown hgrow0 (Nat.le_refl _) (fun k h => by cases h)
    go_wp2_with (first | (at_builtin; refine wpList_append_fits _ rfl (.tmp 29) (.tmp 31) 30 rfl w1.heap.size 9 i0 1 Try.underlying30 hi hz1 w1.heap.size 0 (len + 1) _ rfl (hown0.alloc _) ⟨w2.heap.size, 0, none⟩ 1 1 [.string h] rfl rfl (one_new w2 h _) (one_cell h) (by omega) ?_; intro w3 hown1 hgrow1))
    have R0 : w3.ownsRow w1.heap.size 9 1 (.slice (some ⟨w1.heap.size, 0, none⟩) (0 + 1) (len + 1)) (0 + 1) (vals h S 0) := by simpa [vals] using hown1
    have hb3 : Below w1.heap.size w1 w3 := (hb2.alloc (by omega) _).grown hgrow1 (by simp; omega) (fun k h => by cases h; exact Nat.le_refl _)
    clear hown1 hgrow1 hown0 hgrow0 hb2
    go_wp2
    go_loopw [7, 8] (fun v i wr => ∃ k : Nat, k ≤ len ∧ i = .int .i64 k ∧ v = .slice (some ⟨w1.heap.size, 0, none⟩) (k + 1) (len + 1) ∧ wr.ownsRow w1.heap.size 9 1 (.slice (some ⟨w1.heap.size, 0, none⟩) (k + 1) (len + 1)) (k + 1) (vals h S k) ∧ Below w1.heap.size w1 wr) (fun _ i _ => len - (intOf i).toNat)
    case atStart => exact ⟨0, Nat.zero_le _, rfl, rfl, R0, hb3⟩
    case round =>
      obtain ⟨k, hk, rfl, rfl, hown, hbr⟩ := hrel
      by_cases hlt : k < len
      · have hcell : wr.cell? ⟨b, off + k, none⟩ = some (.string (S k)) := (hbr.cell (strs_lt (hc k hlt))).trans (hc k hlt)
        have hwl : w1.heap.size < wr.heap.size := own_lt hown
        go_wp2_with (first | (at_builtin; refine wpList_append_fits _ rfl (.tmp 39) (.tmp 44) 30 rfl w1.heap.size 9 i0 1 Try.underlying30 hi hz1 w1.heap.size (k + 1) (len + 1) _ rfl (hown.alloc _) ⟨wr.heap.size, 0, none⟩ 1 1 [.string (S k)] rfl rfl (one_new wr (S k) _) (one_cell (S k)) (by omega) ?_; intro w4 hown2 hgrow2))
        have R := hide (show w4.ownsRow w1.heap.size 9 1 (.slice (some ⟨w1.heap.size, 0, none⟩) (k + 1 + 1) (len + 1)) (k + 1 + 1) (vals h S (k + 1)) by rw [← vals_succ]; exact hown2)
        have B := hide (show Below w1.heap.size w1 w4 from (hbr.alloc (by omega) _).grown hgrow2 (by simp; omega) (fun k h => by cases h; exact Nat.le_refl _))
        clear hown2 hgrow2 hown hbr
        go_wp2
        go_roundw
        case rel => exact ⟨k + 1, by omega, by go_num, rfl, unhide R, unhide B⟩
        case measure => simp [intOf]; omega
      · have hP := strs_of_own hown
        have hN := strs_below (unhide hSk) hbr rfl
        have hbe : Below w'.heap.size w' wr := hb1.trans (hbr.mono hb1.size)
        have HK := hide (show k = len by omega)
        clear hown hbr
        by_cases hn : n = -1
        · have hnb : (n == -1) = true := beq_iff_eq.2 hn
          clear hn
          go_wp2_with fail
          refine (nameIs (some ⟨w1.heap.size, 0, none⟩) (k + 1) (len + 1) (T h S) 0 h _ (by unfold maxLen; omega) hP (T_zero h S k)).mono ?_
          rintro e w4 ⟨rfl, rfl⟩
          go_wp2_with fail
          refine (nameIs (some ⟨w1.heap.size, 0, none⟩) (k + 1) (len + 1) (T h S) (-1) ⟨#[]⟩ _ (by unfold maxLen; omega) hP (T_neg h S k)).mono ?_
          rintro e w4 ⟨rfl, rfl⟩
          go_wp2_with fail
          refine (nameIs (some ⟨w1.heap.size, 0, none⟩) (k + 1) (len + 1) (T h S) _ ⟨#[]⟩ _ (by unfold maxLen; omega) hP (T_end h S k)).mono ?_
          rintro e w4 ⟨rfl, rfl⟩
          go_wp2
          go_ret
          exact ⟨rfl, hbe⟩
        · have hnb : (n == -1) = false := beq_eq_false_iff_ne.2 hn
          have HQ := hide hn
          clear hn
          by_cases hx : n = 9223372036854775807
          · have HX := hide hx
            have hlow : 9223372036854775806 < n := by omega
            clear hx
            go_wp2_with fail
            refine (nameIs (some ⟨w1.heap.size, 0, none⟩) (k + 1) (len + 1) (T h S) _ (nm S len n) _ (by unfold maxLen; omega) hP (T_wrap h S k len n (unhide HX) hlen)).mono ?_
            rintro e w4 ⟨rfl, rfl⟩
            go_wp2_with fail
            refine (zzNameAt _ len _ S n _ (unhide HM) hN).mono ?_
            rintro e w4 ⟨rfl, rfl⟩
            go_wp2_with fail
            refine (nameIs (some ⟨w1.heap.size, 0, none⟩) (k + 1) (len + 1) (T h S) 0 h _ (by unfold maxLen; omega) hP (T_zero h S k)).mono ?_
            rintro e w4 ⟨rfl, rfl⟩
            go_wp2_with fail
            refine (nameIs (some ⟨w1.heap.size, 0, none⟩) (k + 1) (len + 1) (T h S) (-1) ⟨#[]⟩ _ (by unfold maxLen; omega) hP (T_neg h S k)).mono ?_
            rintro e w4 ⟨rfl, rfl⟩
            go_wp2_with fail
            refine (nameIs (some ⟨w1.heap.size, 0, none⟩) (k + 1) (len + 1) (T h S) _ ⟨#[]⟩ _ (by unfold maxLen; omega) hP (T_end h S k)).mono ?_
            rintro e w4 ⟨rfl, rfl⟩
            go_wp2
            go_ret
            exact ⟨rfl, hbe⟩
          · have hx' : n ≤ 9223372036854775806 := by omega
            clear hx n1
            go_wp2_with fail
            refine (nameIs (some ⟨w1.heap.size, 0, none⟩) (k + 1) (len + 1) (T h S) (n + 1) (nm S len n) _ (by unfold maxLen; omega) hP (by rw [T_shift h S k n (unhide HQ), unhide HK])).mono ?_
            rintro e w4 ⟨rfl, rfl⟩
            go_wp2_with fail
            refine (zzNameAt _ len _ S n _ (unhide HM) hN).mono ?_
            rintro e w4 ⟨rfl, rfl⟩
            go_wp2_with fail
            refine (nameIs (some ⟨w1.heap.size, 0, none⟩) (k + 1) (len + 1) (T h S) 0 h _ (by unfold maxLen; omega) hP (T_zero h S k)).mono ?_
            rintro e w4 ⟨rfl, rfl⟩
            go_wp2_with fail
            refine (nameIs (some ⟨w1.heap.size, 0, none⟩) (k + 1) (len + 1) (T h S) (-1) ⟨#[]⟩ _ (by unfold maxLen; omega) hP (T_neg h S k)).mono ?_
            rintro e w4 ⟨rfl, rfl⟩
            go_wp2_with fail
            refine (nameIs (some ⟨w1.heap.size, 0, none⟩) (k + 1) (len + 1) (T h S) _ ⟨#[]⟩ _ (by unfold maxLen; omega) hP (T_end h S k)).mono ?_
            rintro e w4 ⟨rfl, rfl⟩
            go_wp2
            go_ret
            exact ⟨rfl, hbe⟩
end Go.Proofs.Qxb6604591a.Prepend
