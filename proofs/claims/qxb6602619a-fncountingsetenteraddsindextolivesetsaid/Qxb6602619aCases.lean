/- Seat b6602619a: the cases of the live part: what enter does and what zzInsertMerge wants agree. -/
import Derived.Test.Qxb6602619aLaw
namespace Go.Proofs.Qxb6602619a.Law
open Go.ChangeShapes Go.WideShapes Go.ChangeAt Go.RowKit
open Reads
set_option linter.unusedVariables false

theorem fits_from {F : Nat → Int} (h : Fits F) (k : Nat) : Fits (Sets.from_ F k) := fun j => h (k + j)

/-- The live runs rise: none ends behind the newest. -/
theorem rises {F L : Nat → Int} {h m : Nat} (hw : WFto F L h (m + 1)) : ∀ d i, i + d = m → h ≤ i → L i ≤ L m
  | 0, i, e, hi => by rw [show i = m by omega]; exact Int.le_refl _
  | d + 1, i, e, hi => by
    have h1 := hw (i + 1) (by omega) (by omega)
    have h2 := h1.2 (by omega)
    have h3 := rises hw d (i + 1) (by omega) (by omega)
    have e1 : i + 1 - 1 = i := by omega
    rw [e1] at h2
    omega

theorem below_lo {F L : Nat → Int} {h m : Nat} {lo : Int} (hw : WFto F L h (m + 1)) (hh : h ≤ m) (hlo : L m ≤ lo) : ∀ k, k < m + 1 - h → Sets.from_ F h k ≤ lo := by
  intro k hk
  have h1 := (hw (h + k) (by omega) (by omega)).1
  have h2 := rises hw (m - (h + k)) (h + k) (by omega) (by omega)
  unfold Sets.from_
  omega

theorem gaps {F L : Nat → Int} {h m : Nat} (hw : WFto F L h (m + 1)) : ∀ j, j + 1 < m + 1 - h → Sets.from_ L h j < Sets.from_ F h (j + 1) ∧ Sets.from_ L h j ≠ Sets.from_ F h (j + 1) - 1 := by
  intro j hj
  have h1 := (hw (h + (j + 1)) (by omega) (by omega)).2 (by omega)
  have e1 : h + (j + 1) - 1 = h + j := by omega
  rw [e1] at h1
  exact h1

theorem snoc_lt {f : Nat → Int} {p j : Nat} {x : Int} (h : j < p) : Merge.snoc f p x j = f j := by simp [Merge.snoc, h]
theorem snoc_at {f : Nat → Int} {p : Nat} {x : Int} : Merge.snoc f p x p = x := by simp [Merge.snoc]

theorem merges_no {p : Nat} {fs ls : Nat → Int} {lo x : Int} (hp : 0 < p) (hp2 : p ≤ 65536) (hfs : Fits fs) (hls : Fits ls) (l1 : lo ≤ 9223372036854775807)
    (c1 : ∀ k, k < p → fs k ≤ lo) (c2 : ∀ j, j + 1 < p → ls j < fs (j + 1) ∧ ls j ≠ fs (j + 1) - 1) (c3 : ls (p - 1) < lo ∧ ls (p - 1) ≠ lo - 1) :
    Merges p fs ls lo x (p + 1) (Merge.snoc fs p lo) (Merge.snoc ls p x) := by
  intro A C cA cC w hA hC
  rcases hA with h | ⟨b0, o0, rfl, hc0⟩
  · omega
  rcases hC with h | ⟨b1, o1, rfl, hc1⟩
  · omega
  refine Merge.merge_no b0 o0 cA b1 o1 cC p lo x fs ls w hp2 hp hc0 hc1 c1 _ _ (Merge.ilist_snoc fs p lo) (Merge.ilist_snoc ls p x) ?_
  intro j hj
  rw [snoc_lt hj]
  by_cases e : j + 1 < p
  · rw [snoc_lt e]
    exact ⟨(c2 j e).1, (c2 j e).2, (hls j).1, (hfs (j + 1)).2⟩
  · have e2 : j + 1 = p := by omega
    have e3 : p - 1 = j := by omega
    rw [e3] at c3
    rw [e2, snoc_at]
    exact ⟨c3.1, c3.2, (hls j).1, l1⟩

theorem merges_yes {p : Nat} {fs ls : Nat → Int} {lo x : Int} (hp : 0 < p) (hp2 : p ≤ 65536) (hfs : Fits fs) (hls : Fits ls) (l1 : lo ≤ 9223372036854775807)
    (c1 : ∀ k, k < p → fs k ≤ lo) (c2 : ∀ j, j + 1 < p → ls j < fs (j + 1) ∧ ls j ≠ fs (j + 1) - 1) (c3 : lo ≤ ls (p - 1) ∨ ls (p - 1) = lo - 1) (c4 : ls (p - 1) ≤ x) :
    Merges p fs ls lo x p (Merge.snoc fs p lo) (Merge.upd (Merge.snoc ls p x) (p - 1) x) := by
  intro A C cA cC w hA hC
  rcases hA with h | ⟨b0, o0, rfl, hc0⟩
  · omega
  rcases hC with h | ⟨b1, o1, rfl, hc1⟩
  · omega
  have key := Merge.merge_yes b0 o0 cA b1 o1 cC p lo x fs ls w hp2 hp hc0 hc1 c1 (Merge.snoc fs p lo) (Merge.snoc ls p x) (Merge.ilist_snoc fs p lo) (Merge.ilist_snoc ls p x) ?_ ?_
  · rw [snoc_at] at key; exact key
  · intro j hj
    rw [snoc_lt (show j < p by omega), snoc_lt hj]
    exact ⟨(c2 j hj).1, (c2 j hj).2, (hls j).1, (hfs (j + 1)).2⟩
  · intro q hq
    have e3 : p - 1 = q := by omega
    rw [e3] at c3 c4
    rw [← hq, snoc_at, snoc_at, snoc_lt (show q < p by omega)]
    exact ⟨c3, c4, (hls q).1, l1⟩

/-- Where the newest index is beyond x the law is over before anything is made: whatever outcome may stand. -/
theorem triv : (∀ j, j < 1 → (fun _ : Nat => (0 : Int)) (0 + j) = (fun _ : Nat => (0 : Int)) j ∧ (fun _ : Nat => (0 : Int)) (0 + j) = (fun _ : Nat => (0 : Int)) j) := fun _ _ => ⟨rfl, rfl⟩

theorem live_one (a0 a1 : Option Addr) (c0 c1 m h : Nat) (x : Int) (F L : Nat → Int) (w : World) (hn : m + 1 ≤ 65536) (hh : h ≤ m) (hF : Fits F) (hL : Fits L)
    (h0 : Ints w a0 (m + 1) F) (h1 : Ints w a1 (m + 1) L) (x0 : -9223372036854775808 ≤ x) (x1 : x ≤ 9223372036854775807) :
    Calls Try.prog 3 #[.slice a0 (m + 1) c0, .slice a1 (m + 1) c1, .int .i64 h, .int .i64 x, .bool false] w fun e w' => e = .returned (.bool true) ∧ Below w.heap.size w w' := by
  have hl0 := (hL m).1
  have hp : h + (m + 1 - h) = m + 1 := by omega
  have ep : Sets.from_ L h (m + 1 - h - 1) = L m := by unfold Sets.from_; congr 1; omega
  by_cases hbig : x < L m
  · exact walk_one a0 a1 c0 c1 m h 0 1 x x F L (fun _ => 0) (fun _ => 0) (fun _ => 0) (fun _ => 0) w hn hh hF hL h0 h1 x0 x1 rfl (fun _ hx => absurd hx (by omega)) (fun _ hx => absurd hx (by omega)) (by omega) (.inr rfl) triv (fun j hj => absurd hj (by omega)) (by omega) (by omega)
  by_cases hs : L m = x
  · refine walk_one a0 a1 c0 c1 m h h (m + 1 - h) x x F L (Merge.snoc (Sets.from_ F h) (m + 1 - h) x) (Merge.upd (Merge.snoc (Sets.from_ L h) (m + 1 - h) x) (m + 1 - h - 1) x) F L w hn hh hF hL h0 h1 x0 x1 rfl ?_ ?_ (by omega) (.inl rfl) ?_ (fun _ _ => ⟨rfl, rfl⟩) (by omega) (by omega)
    · intro hw hx
      exact merges_yes (by omega) (by omega) (fits_from hF h) (fits_from hL h) x1 (below_lo hw hh hx) (gaps hw) (by rw [ep]; omega) (by rw [ep]; omega)
    · intro _ _ B cb g w2 hlies
      rw [hp]
      refine (Sets.enter_same B cb g m h x false F L w2 hn hh hs hlies).mono ?_
      rintro e w3 ⟨h1, h2, h3⟩
      exact ⟨h1, ⟨_, _, h2⟩, h3⟩
    · intro j hj
      refine ⟨by rw [snoc_lt hj]; rfl, ?_⟩
      unfold Merge.upd
      split
      · next e => rw [← hs, e]; congr 1; omega
      · rw [snoc_lt hj]; rfl
  by_cases hl : L m = x - 1
  · refine walk_one a0 a1 c0 c1 m h h (m + 1 - h) x x F L (Merge.snoc (Sets.from_ F h) (m + 1 - h) x) (Merge.upd (Merge.snoc (Sets.from_ L h) (m + 1 - h) x) (m + 1 - h - 1) x) F (Sets.upd L m x) w hn hh hF hL h0 h1 x0 x1 rfl ?_ ?_ (by omega) (.inl rfl) ?_ ?_ (by omega) (by omega)
    · intro hw hx
      exact merges_yes (by omega) (by omega) (fits_from hF h) (fits_from hL h) x1 (below_lo hw hh hx) (gaps hw) (by rw [ep]; omega) (by rw [ep]; omega)
    · intro _ _ B cb g w2 hlies
      rw [hp]
      refine (Sets.enter_last B cb g m h x false F L w2 hn hh x0 x1 (by omega) hl0 (.inr hl) hlies).mono ?_
      rintro e w3 ⟨h1, h2, h3⟩
      exact ⟨h1, ⟨_, _, h2⟩, h3⟩
    · intro j hj
      refine ⟨by rw [snoc_lt hj]; rfl, ?_⟩
      unfold Merge.upd Sets.upd
      by_cases e : j = m + 1 - h - 1
      · rw [if_pos (by omega), if_pos e]
      · rw [if_neg (by omega), if_neg e, snoc_lt hj]; rfl
    · intro j hj
      exact ⟨rfl, by unfold Sets.upd; rw [if_neg (by omega)]⟩
  by_cases hf : h ≤ (m + 1) / 2
  · refine walk_one a0 a1 c0 c1 m h h (m + 1 - h + 1) x x F L (Merge.snoc (Sets.from_ F h) (m + 1 - h) x) (Merge.snoc (Sets.from_ L h) (m + 1 - h) x) (Sets.snoc F (m + 1) x) (Sets.snoc L (m + 1) x) w hn hh hF hL h0 h1 x0 x1 rfl ?_ ?_ (by omega) (.inl rfl) ?_ ?_ (by omega) (by omega)
    · intro hw hx
      exact merges_no (by omega) (by omega) (fits_from hF h) (fits_from hL h) x1 (below_lo hw hh hx) (gaps hw) (by rw [ep]; omega)
    · intro _ _ B cb g w2 hlies
      have e2 : h + (m + 1 - h + 1) = m + 1 + 1 := by omega
      rw [e2]
      exact Sets.enter_more B cb g m h x F L w2 hn hh x0 x1 (by omega) hl0 hl hf hlies
    · intro j hj
      unfold Merge.snoc Sets.snoc Sets.from_
      by_cases e : j < m + 1 - h
      · rw [if_pos (by omega), if_pos e, if_pos (by omega), if_pos e]; exact ⟨rfl, rfl⟩
      · rw [if_neg (by omega), if_neg e, if_neg (by omega), if_neg e]; exact ⟨rfl, rfl⟩
    · intro j hj
      unfold Sets.snoc
      rw [if_pos (by omega), if_pos (by omega)]
      exact ⟨rfl, rfl⟩
  · refine walk_one a0 a1 c0 c1 m h 0 (m + 1 - h + 1) x x F L (Merge.snoc (Sets.from_ F h) (m + 1 - h) x) (Merge.snoc (Sets.from_ L h) (m + 1 - h) x) (Sets.snoc (Sets.from_ F h) (m + 1 - h) x) (Sets.snoc (Sets.from_ L h) (m + 1 - h) x) w hn hh hF hL h0 h1 x0 x1 rfl ?_ ?_ (by omega) (.inr rfl) ?_ (fun j hj => absurd hj (by omega)) (by omega) (by omega)
    · intro hw hx
      exact merges_no (by omega) (by omega) (fits_from hF h) (fits_from hL h) x1 (below_lo hw hh hx) (gaps hw) (by rw [ep]; omega)
    · intro _ _ B cb g w2 hlies
      rw [Nat.zero_add]
      exact Sets.enter_move B cb g m h (m + 1 - h) x F L w2 hn hh (show m + 1 = h + (m + 1 - h) by omega) x0 x1 (by omega) hl0 hl (by omega) hlies
    · intro j hj
      rw [Nat.zero_add]
      exact ⟨rfl, rfl⟩

theorem live_all (a0 a1 : Option Addr) (c0 c1 m h : Nat) (x : Int) (F L : Nat → Int) (w : World) (hn : m + 1 ≤ 65536) (hh : h ≤ m) (hF : Fits F) (hL : Fits L)
    (h0 : Ints w a0 (m + 1) F) (h1 : Ints w a1 (m + 1) L) (x0 : -9223372036854775808 ≤ x) (x1 : x ≤ 9223372036854775807) :
    Calls Try.prog 3 #[.slice a0 (m + 1) c0, .slice a1 (m + 1) c1, .int .i64 h, .int .i64 x, .bool true] w fun e w' => e = .returned (.bool true) ∧ Below w.heap.size w w' := by
  obtain ⟨hl0, hl1⟩ := hL m
  have hp : h + (m + 1 - h) = m + 1 := by omega
  have ep : Sets.from_ L h (m + 1 - h - 1) = L m := by unfold Sets.from_; congr 1; omega
  by_cases hbig : x < L m
  · exact walk_all a0 a1 c0 c1 m h 0 1 x (L m) F L (fun _ => 0) (fun _ => 0) (fun _ => 0) (fun _ => 0) w hn hh hF hL h0 h1 x0 x1 rfl (fun _ hx => absurd hx (by omega)) (fun _ hx => absurd hx (by omega)) (by omega) (.inr rfl) triv (fun j hj => absurd hj (by omega)) (by omega) (by omega)
  by_cases hs : L m = x
  · refine walk_all a0 a1 c0 c1 m h h (m + 1 - h) x (L m) F L (Merge.snoc (Sets.from_ F h) (m + 1 - h) (L m)) (Merge.upd (Merge.snoc (Sets.from_ L h) (m + 1 - h) x) (m + 1 - h - 1) x) F L w hn hh hF hL h0 h1 x0 x1 rfl ?_ ?_ (by omega) (.inl rfl) ?_ (fun _ _ => ⟨rfl, rfl⟩) (by omega) (by omega)
    · intro hw hx
      exact merges_yes (by omega) (by omega) (fits_from hF h) (fits_from hL h) hl1 (below_lo hw hh (Int.le_refl _)) (gaps hw) (by rw [ep]; omega) (by rw [ep]; omega)
    · intro _ _ B cb g w2 hlies
      rw [hp]
      refine (Sets.enter_same B cb g m h x true F L w2 hn hh hs hlies).mono ?_
      rintro e w3 ⟨h1, h2, h3⟩
      exact ⟨h1, ⟨_, _, h2⟩, h3⟩
    · intro j hj
      refine ⟨by rw [snoc_lt hj]; rfl, ?_⟩
      unfold Merge.upd
      split
      · next e => rw [← hs, e]; congr 1; omega
      · rw [snoc_lt hj]; rfl
  · refine walk_all a0 a1 c0 c1 m h h (m + 1 - h) x (L m) F L (Merge.snoc (Sets.from_ F h) (m + 1 - h) (L m)) (Merge.upd (Merge.snoc (Sets.from_ L h) (m + 1 - h) x) (m + 1 - h - 1) x) F (Sets.upd L m x) w hn hh hF hL h0 h1 x0 x1 rfl ?_ ?_ (by omega) (.inl rfl) ?_ ?_ (by omega) (by omega)
    · intro hw hx
      exact merges_yes (by omega) (by omega) (fits_from hF h) (fits_from hL h) hl1 (below_lo hw hh (Int.le_refl _)) (gaps hw) (by rw [ep]; omega) (by rw [ep]; omega)
    · intro _ _ B cb g w2 hlies
      rw [hp]
      refine (Sets.enter_last B cb g m h x true F L w2 hn hh x0 x1 (by omega) hl0 (.inl rfl) hlies).mono ?_
      rintro e w3 ⟨h1, h2, h3⟩
      exact ⟨h1, ⟨_, _, h2⟩, h3⟩
    · intro j hj
      refine ⟨by rw [snoc_lt hj]; rfl, ?_⟩
      unfold Merge.upd Sets.upd
      by_cases e : j = m + 1 - h - 1
      · rw [if_pos (by omega), if_pos e]
      · rw [if_neg (by omega), if_neg e, snoc_lt hj]; rfl
    · intro j hj
      exact ⟨rfl, by unfold Sets.upd; rw [if_neg (by omega)]⟩
end Go.Proofs.Qxb6602619a.Law
