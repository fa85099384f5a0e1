/- Seat b6602619a: contracts of the functions that only read, or copy: zzBytes, zzLiveWellFormed, zzCopyInts, zzSameInts. -/
import Derived.Test.Qxb6602619aRows
import Derived.WalkKit
import Derived.WalkLawsBesides
import Derived.ProofKit
import Derived.Outline
import Derived.Below
import Derived.RegionTactic
import Derived.Deep.OwnRows
import Derived.Lib.SliceRun
import Derived.WalkSpells
import Derived.Deep.QuietTactic
import Derived.BigQuiet
namespace Go.Proofs.Qxb6602619a.Reads
open Go.ChangeShapes Go.WideShapes Go.ChangeAt Go.RowKit
set_option linter.unusedVariables false

theorem hide {p : Prop} (h : p) : Hid p := h
theorem unhide {p : Prop} (h : Hid p) : p := h

/-- What the walks are told of a slice of ints: it has no element, or it leads to a row of cells that hold 'F 0', 'F 1', .. -/
def Ints (w : World) (a : Option Addr) (len : Nat) (F : Nat → Int) : Prop :=
  len = 0 ∨ ∃ b off, a = some ⟨b, off, none⟩ ∧ ∀ k, k < len → w.cell? ⟨b, off + k, none⟩ = some (.int .i64 (F k))

/-- Every number fits int. -/
def Fits (F : Nat → Int) : Prop := ∀ j, -9223372036854775808 ≤ F j ∧ F j ≤ 9223372036854775807

theorem cell_lt {w : World} {a : Addr} {v : Value} (h : w.cell? a = some v) : a.block < w.heap.size := by
  rcases Nat.lt_or_ge a.block w.heap.size with h1 | h1
  · exact h1
  · have : w.heap[a.block]? = none := Array.getElem?_eq_none h1
    simp [World.cell?, this] at h

theorem Ints.below {w w' : World} {a : Option Addr} {len : Nat} {F : Nat → Int} (h : Ints w a len F) (hb : Below w.heap.size w w') : Ints w' a len F := by
  rcases h with h | ⟨b, off, rfl, hc⟩
  · exact .inl h
  · exact .inr ⟨b, off, rfl, fun k hk => (hb.cell (cell_lt (hc k hk))).trans (hc k hk)⟩

/-- The runs from h on, as far as k, are in the canonical form. -/
def WFto (F L : Nat → Int) (h k : Nat) : Prop := ∀ j, h ≤ j → j < k → F j ≤ L j ∧ (h < j → L (j - 1) < F j ∧ L (j - 1) ≠ F j - 1)

theorem WFto.step {F L : Nat → Int} {h k : Nat} (hw : WFto F L h k) (h1 : F k ≤ L k) (h2 : h < k → L (k - 1) < F k ∧ L (k - 1) ≠ F k - 1) : WFto F L h (k + 1) := by
  intro j hj hk
  by_cases e : j = k
  · subst e; exact ⟨h1, h2⟩
  · exact hw j hj (by omega)

/-- The call returned a bool, and where that is true 'p' holds. -/
def Tells (p : Prop) (e : Ending) : Prop := ∃ b, e = .returned (.bool b) ∧ (b = true → p)
theorem tells {p : Prop} {b : Bool} (h : b = true → p) : Tells p (.returned (.bool b)) := ⟨b, rfl, h⟩

theorem bytes7 (a0 : Option Addr) (n0 c0 : Nat) (a1 : Option Addr) (n1 c1 : Nat) (h x : Int) (u : Bool) (w : World) (hn0 : n0 ≤ maxLen) (hn1 : n1 ≤ maxLen) :
    Calls Try.prog 7 #[.slice a0 n0 c0, .slice a1 n1 c1, .int .i64 h, .int .i64 x, .bool u] w fun e w' => Tells True e ∧ w' = w := by
  unfold maxLen at hn0 hn1
  go_enter Try.func7, Try.ntmps7
  go_wp2
  all_goals
    go_ret
    exact ⟨tells (fun _ => trivial), rfl⟩

set_option maxHeartbeats 1000000 in
theorem wellFormed (a0 : Option Addr) (n c0 : Nat) (a1 : Option Addr) (c1 : Nat) (h : Nat) (F L : Nat → Int) (w : World) (hn : n ≤ 65536) (hh : h ≤ n) (hF : Fits F) (hL : Fits L)
    (h0 : Ints w a0 n F) (h1 : Ints w a1 n L) :
    Calls Try.prog 8 #[.slice a0 n c0, .slice a1 n c1, .int .i64 h] w fun e w' => Tells (WFto F L h n) e ∧ Below w.heap.size w w' := by
  by_cases hz : n ≤ 0
  · have hW := hide (show WFto F L h n from fun j _ hj => absurd hj (by omega))
    clear h0 h1
    go_enter Try.func8, Try.ntmps8
    go_wp2
    go_loop [7] (fun i => i = .int .i64 h) (fun _ => 0)
    case atStart => rfl
    case round =>
      subst hrel
      go_wp2
      go_ret
      exact ⟨tells (fun _ => unhide hW), Below.refl _ _⟩
  rcases h0 with h0 | ⟨b0, o0, rfl, hc0⟩
  · omega
  rcases h1 with h1 | ⟨b1, o1, rfl, hc1⟩
  · omega
  go_enter Try.func8, Try.ntmps8
  go_wp2
  go_loopw [7] (fun i wr => ∃ k : Nat, h ≤ k ∧ k ≤ n ∧ i = .int .i64 k ∧ Hid (WFto F L h k) ∧ Below w.heap.size w wr) (fun i _ => n - (intOf i).toNat)
  case atStart => exact ⟨h, Nat.le_refl _, hh, rfl, fun j h1 h2 => absurd h2 (by omega), Below.refl _ _⟩
  case round =>
    obtain ⟨k, hhk, hk, rfl, hW, hb⟩ := hrel
    by_cases hlt : k < n
    · have k0 : wr.cell? ⟨b0, o0 + k, none⟩ = some (.int .i64 (F k)) := (hb.cell (cell_lt (hc0 k hlt))).trans (hc0 k hlt)
      have k1 : wr.cell? ⟨b1, o1 + k, none⟩ = some (.int .i64 (L k)) := (hb.cell (cell_lt (hc1 k hlt))).trans (hc1 k hlt)
      have hz' : (k : Int) < (n : Int) := by omega
      obtain ⟨f0, f1⟩ := hF k
      by_cases hfl : L k < F k
      · go_wp2
        go_quiet (fail)
        go_wp2
        go_ret
        exact ⟨tells (fun h => by cases h), below_drewN hb _⟩
      · by_cases hgt : h < k
        · obtain ⟨j, rfl⟩ : ∃ j, k = j + 1 := ⟨k - 1, by omega⟩
          have k2 : wr.cell? ⟨b1, o1 + j, none⟩ = some (.int .i64 (L j)) := (hb.cell (cell_lt (hc1 j (by omega)))).trans (hc1 j (by omega))
          obtain ⟨l0, l1⟩ := hL j
          have hj' : (j : Int) < (n : Int) := by omega
          have hgt' : (h : Int) < (j : Int) + 1 := by omega
          by_cases hp : L j < F (j + 1)
          · by_cases he : L j = F (j + 1) - 1
            · have heb : (L j == F (j + 1) - 1) = true := beq_iff_eq.2 he
              clear he
              go_wp2
              go_quiet (fail)
              go_wp2
              go_ret
              exact ⟨tells (fun h => by cases h), below_drewN hb _⟩
            · have heb : (L j == F (j + 1) - 1) = false := beq_eq_false_iff_ne.2 he
              have R := hide (hW.out.step (by omega) (fun _ => ⟨hp, he⟩))
              clear he hW
              go_wp2
              go_quiet (fail)
              go_wp2
              go_roundw
              case rel => exact ⟨j + 1 + 1, by omega, by omega, by go_num, R, below_drewN hb _⟩
              case measure => simp [intOf]; omega
          · go_wp2
            go_quiet (fail)
            go_wp2
            go_ret
            exact ⟨tells (fun h => by cases h), below_drewN hb _⟩
        · have R := hide (hW.out.step (by omega) (fun h => absurd h hgt))
          clear hW
          have hgt' : ¬ (h : Int) < (k : Int) := by omega
          go_wp2
          go_quiet (fail)
          go_wp2
          go_roundw
          case rel => exact ⟨k + 1, by omega, by omega, by go_num, R, below_drewN hb _⟩
          case measure => simp [intOf]; omega
    · go_wp2
      go_ret
      exact ⟨tells (fun _ => by rw [show n = k by omega]; exact unhide hW), hb⟩

set_option maxHeartbeats 1000000 in
/-- Two slices of one length with the same numbers: 'zzSameInts' says yes. -/
theorem sameInts (a0 : Option Addr) (n c0 : Nat) (a1 : Option Addr) (c1 : Nat) (F G : Nat → Int) (w : World) (hn : n ≤ 65537) (heq : Hid (∀ j, j < n → F j = G j))
    (h0 : Ints w a0 n F) (h1 : Ints w a1 n G) :
    Calls Try.prog 12 #[.slice a0 n c0, .slice a1 n c1] w fun e w' => e = .returned (.bool true) ∧ Below w.heap.size w w' := by
  by_cases hz : n ≤ 0
  · clear h0 h1
    go_enter Try.func12, Try.ntmps12
    go_wp2
    go_loop [5] (fun i => i = .int .i64 0) (fun _ => 0)
    case atStart => rfl
    case round =>
      subst hrel
      go_wp2
      go_ret
      exact ⟨rfl, Below.refl _ _⟩
  rcases h0 with h0 | ⟨b0, o0, rfl, hc0⟩
  · omega
  rcases h1 with h1 | ⟨b1, o1, rfl, hc1⟩
  · omega
  go_enter Try.func12, Try.ntmps12
  go_wp2
  go_loopw [5] (fun i wr => ∃ k : Nat, k ≤ n ∧ i = .int .i64 k ∧ Below w.heap.size w wr) (fun i _ => n - (intOf i).toNat)
  case atStart => exact ⟨0, Nat.zero_le _, rfl, Below.refl _ _⟩
  case round =>
    obtain ⟨k, hk, rfl, hb⟩ := hrel
    by_cases hlt : k < n
    · have e := heq.out k hlt
      have k0 : wr.cell? ⟨b0, o0 + k, none⟩ = some (.int .i64 (F k)) := (hb.cell (cell_lt (hc0 k hlt))).trans (hc0 k hlt)
      have k1 : wr.cell? ⟨b1, o1 + k, none⟩ = some (.int .i64 (F k)) := by rw [e]; exact (hb.cell (cell_lt (hc1 k hlt))).trans (hc1 k hlt)
      have hz' : (k : Int) < (n : Int) := by omega
      clear e
      go_wp2
      go_quiet (fail)
      go_wp2
      go_roundw
      case rel => exact ⟨k + 1, by omega, by go_num, below_drewN hb _⟩
      case measure => simp [intOf]; omega
    · go_wp2
      go_ret
      exact ⟨rfl, hb⟩

theorem info3 : (Try.prog.info? 3).map (fun i => (i.zero, i.size, i.bytes)) = some (some (.int .i64 0), 1, 8) := by kernel_rfl

theorem copy_nil (len cap : Nat) (w : World) :
    Calls Try.prog 9 #[.slice none len cap] w fun e w' => e = .returned (.slice none 0 0) ∧ w' = w := by
  have qT : ∀ (w : World) (a : Option Addr) (n c n' c' : Nat), (binOp .eql 22 (.slice a n c) (.slice none n' c')).run Try.prog w = .ok (.bool a.isNone) w := fun w a n c n' c' => Lib.run_eql_slice_nil w _ _ a n c n' c' Try.underlying22
  go_enter Try.func9, Try.ntmps9
  go_wp2
  go_ret
  exact ⟨rfl, rfl⟩

/-- What the copy's row holds behind k rounds. -/
def part (S : Nat → Int) (k : Nat) : Nat → Value := fun j => if j < k then .int .i64 (S j) else .int .i64 0
theorem part_step {w : World} {b len k : Nat} {S : Nat → Int} (h : w.rowIs b 3 len (part S k)) : (w.setCell ⟨b, k, none⟩ (.int .i64 (S k))).rowIs b 3 len (part S (k + 1)) := by
  refine (h.set k (.int .i64 (S k))).congr ?_
  intro j hj
  unfold part
  by_cases e : j = k
  · subst e; simp
  · rw [if_neg e]
    by_cases l : j < k
    · rw [if_pos l, if_pos (by omega)]
    · rw [if_neg l, if_neg (by omega)]
theorem part_made (w : World) (S : Nat → Int) (len : Nat) : (w.alloc (.cells (madeCells #[.int .i64 0] len) 3)).rowIs w.heap.size 3 len (part S 0) :=
  (World.rowIs_made w (.int .i64 0) len 3).congr (fun i _ => by simp [part])
theorem part_done {w : World} {b len : Nat} {S : Nat → Int} (h : w.rowIs b 3 len (part S len)) : Ints w (some ⟨b, 0, none⟩) len S :=
  .inr ⟨b, 0, rfl, fun k hk => by have := h.cell hk; simpa [part, hk] using this⟩

set_option maxHeartbeats 400000 in
theorem copy_some (x : Addr) (len cap : Nat) (S : Nat → Int) (w : World) (hl : len ≤ 65536) (hS : Ints w (some x) len S) :
    Calls Try.prog 9 #[.slice (some x) len cap] w fun e w' => e = .returned (.slice (some ⟨w.heap.size, 0, none⟩) len len) ∧ Ints w' (some ⟨w.heap.size, 0, none⟩) len S ∧ Below w.heap.size w w' := by
  have qT : ∀ (w : World) (a : Option Addr) (n c n' c' : Nat), (binOp .eql 22 (.slice a n c) (.slice none n' c')).run Try.prog w = .ok (.bool a.isNone) w := fun w a n c n' c' => Lib.run_eql_slice_nil w _ _ a n c n' c' Try.underlying22
  have hmk := run_make_row' (P := Try.prog) 22 3 (.int .i64 0) 8 Try.underlying22 info3 rfl .i64 .i64 len (by omega) (by omega)
  have HS := hide (part_made w S len)
  have HB := hide (show Below w.heap.size w (w.alloc (.cells (madeCells #[.int .i64 0] len) 3)) from (Below.refl _ _).alloc (Nat.le_refl _) _)
  rcases hS with h0 | ⟨b, off, hx, hc⟩
  · have h0' : len ≤ 0 := by omega
    clear h0
    go_enter Try.func9, Try.ntmps9
    go_wp2
    go_loopw [4] (fun i wr => i = .int .i64 0 ∧ Below w.heap.size w wr) (fun i wr => 0)
    case atStart => exact ⟨rfl, unhide HB⟩
    case round =>
      obtain ⟨rfl, hb⟩ := hrel
      go_wp2
      go_ret
      exact ⟨rfl, .inl (by omega), hb⟩
  · obtain rfl : x = ⟨b, off, none⟩ := by simpa using hx
    clear hx
    go_enter Try.func9, Try.ntmps9
    go_wp2
    go_loopw [4] (fun i wr => ∃ k : Nat, k ≤ len ∧ i = .int .i64 k ∧ wr.rowIs w.heap.size 3 len (part S k) ∧ Below w.heap.size w wr) (fun i wr => len - (intOf i).toNat)
    case atStart => exact ⟨0, Nat.zero_le _, rfl, unhide HS, unhide HB⟩
    case round =>
      obtain ⟨k, hk, rfl, hr, hb⟩ := hrel
      by_cases hlt : k < len
      · have hcell : wr.cell? ⟨b, off + k, none⟩ = some (.int .i64 (S k)) := (hb.cell (cell_lt (hc k hlt))).trans (hc k hlt)
        have hc2 := hr.cell hlt
        have hf2 := hr.frozen k
        have R := hide (part_step hr)
        have B := hide (hb.setCell (p := ⟨w.heap.size, k, none⟩) (Nat.le_refl _) (.int .i64 (S k)))
        clear hr hb
        go_wp2
        go_roundw
        case rel => exact ⟨k + 1, by omega, by go_num, unhide R, unhide B⟩
        case measure => simp [intOf]; omega
      · go_wp2
        go_ret
        obtain rfl : k = len := by omega
        exact ⟨rfl, part_done hr, hb⟩

/-- 'zzCopyInts', whatever comes in: where there is an element the copy is a row of its own, without spare room. -/
theorem copy_any (a : Option Addr) (len cap : Nat) (S : Nat → Int) (w : World) (hn : a = none → len = 0) (hl : len ≤ 65536) (hS : Ints w a len S) :
    Calls Try.prog 9 #[.slice a len cap] w fun e w' => ∃ a', e = .returned (.slice a' len len) ∧ (0 < len → a' = some ⟨w.heap.size, 0, none⟩) ∧ Ints w' a' len S ∧ Below w.heap.size w w' := by
  cases a with
  | none =>
    refine (copy_nil len cap w).mono ?_
    rintro e w' ⟨rfl, rfl⟩
    refine ⟨none, ?_, fun h => absurd (hn rfl) (by omega), .inl (hn rfl), Below.refl _ _⟩
    rw [hn rfl]
  | some x =>
    refine (copy_some x len cap S w hl hS).mono ?_
    rintro e w1 ⟨rfl, hrow, hbel⟩
    exact ⟨_, rfl, fun _ => rfl, hrow, hbel⟩
end Go.Proofs.Qxb6602619a.Reads
