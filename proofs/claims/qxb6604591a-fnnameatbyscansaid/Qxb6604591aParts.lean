import Derived.Test.Qxb6604591aRows
import Derived.WalkKit
import Derived.WalkLawsBesides
import Derived.ProofKit
import Derived.Outline
import Derived.Below
import Derived.Deep.OwnRows
import Derived.Lib.SliceRun
import Derived.WalkSpells
namespace Go.Proofs.Qxb6604591a.Parts
open Go.ChangeShapes Go.WideShapes Go.ChangeAt Go.RowKit
set_option linter.unusedVariables false

/-- What the walks are told of a slice of strings: it has no element, or it leads to a row of cells that hold the strings 'S 0', 'S 1', .. -/
def Strs (w : World) (a : Option Addr) (len : Nat) (S : Nat → ByteArray) : Prop :=
  len = 0 ∨ ∃ b off, a = some ⟨b, off, none⟩ ∧ ∀ k, k < len → w.cell? ⟨b, off + k, none⟩ = some (.string (S k))

/-- What 'nameAt' answers. -/
def nm (S : Nat → ByteArray) (len : Nat) (n : Int) : ByteArray := if 0 ≤ n ∧ n < (len : Int) then S n.toNat else ⟨#[]⟩

theorem hide {p : Prop} (h : p) : Hid p := h
theorem unhide {p : Prop} (h : Hid p) : p := h
theorem ret_str {a b : ByteArray} (h : a = b) : Ending.returned (.string a) = .returned (.string b) := by rw [h]

theorem nameAt (a : Option Addr) (len cap : Nat) (S : Nat → ByteArray) (n : Int) (w : World) (hl : len ≤ maxLen) (hS : Strs w a len S) :
    Calls Try.prog 20 #[.slice a len cap, .int .i64 n] w fun e w' => e = .returned (.string (nm S len n)) ∧ w' = w := by
  unfold maxLen at hl
  by_cases h0 : n < 0
  · have hr : nm S len n = ⟨#[]⟩ := by unfold nm; rw [if_neg (by omega)]
    rw [hr]; clear hr
    go_enter Try.func20, Try.ntmps20
    go_wp2
    go_ret
    exact ⟨rfl, rfl⟩
  by_cases h1 : (len : Int) ≤ n
  · have hr : nm S len n = ⟨#[]⟩ := by unfold nm; rw [if_neg (by omega)]
    rw [hr]; clear hr
    go_enter Try.func20, Try.ntmps20
    go_wp2
    go_ret
    exact ⟨rfl, rfl⟩
  obtain ⟨k, rfl⟩ := Int.eq_ofNat_of_zero_le (Int.not_lt.1 h0)
  have hk : k < len := by omega
  rcases hS with h | ⟨b, off, rfl, hc⟩
  · omega
  have hcell := hc k hk
  have hr : nm S len k = S k := by unfold nm; rw [if_pos (by omega)]; simp
  rw [hr]; clear hr
  go_enter Try.func20, Try.ntmps20
  go_wp2
  go_ret
  exact ⟨rfl, rfl⟩

theorem zzNameAt (a : Option Addr) (len cap : Nat) (S : Nat → ByteArray) (n : Int) (w : World) (hl : len ≤ maxLen) (hS : Strs w a len S) :
    Calls Try.prog 16 #[.slice a len cap, .int .i64 n] w fun e w' => e = .returned (.string (nm S len n)) ∧ w' = w := by
  go_enter Try.func16, Try.ntmps16
  go_wp2_with (go_at_call 20; refine (nameAt a len cap S n _ hl hS).mono ?_; rintro e w' ⟨rfl, rfl⟩)
  go_ret
  exact ⟨rfl, rfl⟩

/-- The call returned a bool, and where that is false 'p' holds. -/
def Tells (p : Prop) (e : Ending) : Prop := ∃ b, e = .returned (.bool b) ∧ (b = false → p)
theorem tells {p : Prop} {b : Bool} (h : b = false → p) : Tells p (.returned (.bool b)) := ⟨b, rfl, h⟩


set_option maxHeartbeats 400000 in
theorem bytes13 (a : Option Addr) (len cap : Nat) (S : Nat → ByteArray) (n : Int) (w : World) (hl : len ≤ maxLen) (hS : Strs w a len S) :
    Calls Try.prog 13 #[.slice a len cap, .int .i64 n] w fun e w' => Tells True e ∧ w' = w := by
  unfold maxLen at hl
  by_cases h1 : (1048576 : Int) < len
  · go_enter Try.func13, Try.ntmps13
    go_wp2
    go_ret
    exact ⟨tells (fun _ => trivial), rfl⟩
  rcases hS with rfl | ⟨b, off, rfl, hc⟩
  · go_enter Try.func13, Try.ntmps13
    go_wp2
    go_loop [5, 6] (fun z i => (∃ x : Int, z = .int .i64 x) ∧ i = .int .i64 0) (fun _ i => 0)
    case atStart => exact ⟨⟨_, rfl⟩, rfl⟩
    case round =>
      obtain ⟨⟨x, rfl⟩, rfl⟩ := hrel
      go_wp2
      all_goals
        go_ret
        exact ⟨tells (fun _ => trivial), rfl⟩
  · go_enter Try.func13, Try.ntmps13
    go_wp2
    go_loop [5, 6] (fun z i => (∃ x : Int, z = .int .i64 x) ∧ ∃ k : Nat, k ≤ len ∧ i = .int .i64 k) (fun _ i => len - (intOf i).toNat)
    case atStart => exact ⟨⟨_, rfl⟩, 0, Nat.zero_le _, rfl⟩
    case round =>
      obtain ⟨⟨x, rfl⟩, k, hk, rfl⟩ := hrel
      by_cases hlt : k < len
      · have hcell := hc k hlt
        go_wp2
        · go_ret
          exact ⟨tells (fun _ => trivial), rfl⟩
        · go_ret
          exact ⟨tells (fun _ => trivial), rfl⟩
        · go_round
          case rel => exact ⟨⟨_, rfl⟩, k + 1, by omega, by go_num⟩
          case measure => simp [intOf]; omega
      · go_wp2
        all_goals
          go_ret
          exact ⟨tells (fun _ => trivial), rfl⟩

set_option maxHeartbeats 400000 in
theorem bytes18 (a : Option Addr) (len cap : Nat) (S : Nat → ByteArray) (h : ByteArray) (n : Int) (w : World) (hl : len ≤ maxLen) (hS : Strs w a len S) :
    Calls Try.prog 18 #[.slice a len cap, .string h, .int .i64 n] w fun e w' => Tells True e ∧ w' = w := by
  unfold maxLen at hl
  by_cases h1 : (1048576 : Int) < len
  · go_enter Try.func18, Try.ntmps18
    go_wp2
    go_ret
    exact ⟨tells (fun _ => trivial), rfl⟩
  rcases hS with rfl | ⟨b, off, rfl, hc⟩
  · go_enter Try.func18, Try.ntmps18
    go_wp2
    go_loop [7, 8] (fun z i => (∃ x : Int, z = .int .i64 x) ∧ i = .int .i64 0) (fun _ i => 0)
    case atStart => exact ⟨⟨_, rfl⟩, rfl⟩
    case round =>
      obtain ⟨⟨x, rfl⟩, rfl⟩ := hrel
      go_wp2
      all_goals
        go_ret
        exact ⟨tells (fun _ => trivial), rfl⟩
  · go_enter Try.func18, Try.ntmps18
    go_wp2
    go_loop [7, 8] (fun z i => (∃ x : Int, z = .int .i64 x) ∧ ∃ k : Nat, k ≤ len ∧ i = .int .i64 k) (fun _ i => len - (intOf i).toNat)
    case atStart => exact ⟨⟨_, rfl⟩, 0, Nat.zero_le _, rfl⟩
    case round =>
      obtain ⟨⟨x, rfl⟩, k, hk, rfl⟩ := hrel
      by_cases hlt : k < len
      · have hcell := hc k hlt
        go_wp2
        · go_ret
          exact ⟨tells (fun _ => trivial), rfl⟩
        · go_ret
          exact ⟨tells (fun _ => trivial), rfl⟩
        · go_round
          case rel => exact ⟨⟨_, rfl⟩, k + 1, by omega, by go_num⟩
          case measure => simp [intOf]; omega
      · go_wp2
        all_goals
          go_ret
          exact ⟨tells (fun _ => trivial), rfl⟩

set_option maxHeartbeats 400000 in
theorem tooBig (a : Option Addr) (len cap : Nat) (S : Nat → ByteArray) (n : Int) (w : World) (hl : len ≤ maxLen) (hS : Strs w a len S) :
    Calls Try.prog 14 #[.slice a len cap, .int .i64 n] w fun e w' => Tells (len ≤ 65536) e ∧ w' = w := by
  unfold maxLen at hl
  by_cases h1 : (65536 : Int) < len
  · go_enter Try.func14, Try.ntmps14
    go_wp2
    go_ret
    exact ⟨tells (fun _ => by first | omega | simp_all), rfl⟩
  rcases hS with rfl | ⟨b, off, rfl, hc⟩
  · go_enter Try.func14, Try.ntmps14
    go_wp2
    go_loop [5, 6] (fun z i => (∃ x : Int, z = .int .i64 x) ∧ i = .int .i64 0) (fun _ i => 0)
    case atStart => exact ⟨⟨_, rfl⟩, rfl⟩
    case round =>
      obtain ⟨⟨x, rfl⟩, rfl⟩ := hrel
      go_wp2
      all_goals
        go_ret
        exact ⟨tells (fun _ => by first | omega | simp_all), rfl⟩
  · go_enter Try.func14, Try.ntmps14
    go_wp2
    go_loop [5, 6] (fun z i => (∃ x : Int, z = .int .i64 x) ∧ ∃ k : Nat, k ≤ len ∧ i = .int .i64 k) (fun _ i => len - (intOf i).toNat)
    case atStart => exact ⟨⟨_, rfl⟩, 0, Nat.zero_le _, rfl⟩
    case round =>
      obtain ⟨⟨x, rfl⟩, k, hk, rfl⟩ := hrel
      by_cases hlt : k < len
      · have hcell := hc k hlt
        go_wp2
        · go_ret
          exact ⟨tells (fun _ => by first | omega | simp_all), rfl⟩
        · go_ret
          exact ⟨tells (fun _ => by first | omega | simp_all), rfl⟩
        · go_round
          case rel => exact ⟨⟨_, rfl⟩, k + 1, by omega, by go_num⟩
          case measure => simp [intOf]; omega
      · go_wp2
        all_goals
          go_ret
          exact ⟨tells (fun _ => by first | omega | simp_all), rfl⟩

set_option maxHeartbeats 400000 in
theorem scanAt (a : Option Addr) (len cap : Nat) (S : Nat → ByteArray) (n : Int) (w : World) (hl : len ≤ maxLen) (hS : Strs w a len S) :
    Calls Try.prog 17 #[.slice a len cap, .int .i64 n] w fun e w' => e = .returned (.string (nm S len n)) ∧ w' = w := by
  unfold maxLen at hl
  rcases hS with rfl | ⟨b, off, rfl, hc⟩
  · have hr : nm S 0 n = ⟨#[]⟩ := by unfold nm; rw [if_neg (by omega)]
    rw [hr]; clear hr
    go_enter Try.func17, Try.ntmps17
    go_wp2
    go_loop [5] (fun i => i = .int .i64 0) (fun i => 0)
    case atStart => rfl
    case round =>
      subst hrel
      go_wp2
      go_ret
      exact ⟨rfl, rfl⟩
  · go_enter Try.func17, Try.ntmps17
    go_wp2
    go_loop [5] (fun i => ∃ k : Nat, k ≤ len ∧ i = .int .i64 k ∧ ((k : Int) ≤ n ∨ n < 0)) (fun i => len - (intOf i).toNat)
    case atStart => exact ⟨0, Nat.zero_le _, rfl, by omega⟩
    case round =>
      obtain ⟨k, hk, rfl, hn⟩ := hrel
      by_cases hlt : k < len
      · have hcell := hc k hlt
        by_cases he : (k : Int) = n
        · have hb : ((k : Int) == n) = true := beq_iff_eq.2 he
          have hr : Hid (nm S len n = S k) := by unfold nm Hid; rw [if_pos (by omega), ← he]; simp
          clear he hn
          go_wp2
          go_ret
          exact ⟨ret_str hr.out.symm, rfl⟩
        · have hb : ((k : Int) == n) = false := beq_eq_false_iff_ne.2 he
          go_wp2
          go_round
          case rel => exact ⟨k + 1, by omega, by go_num, by omega⟩
          case measure => simp [intOf]; omega
      · have hr : Hid (nm S len n = ⟨#[]⟩) := by unfold nm Hid; rw [if_neg (by omega)]
        go_wp2
        go_ret
        exact ⟨ret_str hr.out.symm, rfl⟩

theorem info9 : (Try.prog.info? 9).map (fun i => (i.zero, i.size, i.bytes)) = some (some (.string ⟨#[]⟩), 1, 16) := by kernel_rfl

theorem strs_lt {w : World} {a : Addr} {v : Value} (h : w.cell? a = some v) : a.block < w.heap.size := by
  rcases Nat.lt_or_ge a.block w.heap.size with h1 | h1
  · exact h1
  · have : w.heap[a.block]? = none := Array.getElem?_eq_none h1
    simp [World.cell?, this] at h

theorem copy_nil (len cap : Nat) (w : World) :
    Calls Try.prog 15 #[.slice none len cap] w fun e w' => e = .returned (.slice none 0 0) ∧ w' = w := by
  have qT : ∀ (w : World) (a : Option Addr) (n c n' c' : Nat), (binOp .eql 30 (.slice a n c) (.slice none n' c')).run Try.prog w = .ok (.bool a.isNone) w := fun w a n c n' c' => Lib.run_eql_slice_nil w _ _ a n c n' c' Try.underlying30
  go_enter Try.func15, Try.ntmps15
  go_wp2
  go_ret
  exact ⟨rfl, rfl⟩

/-- What the copy's row holds behind k rounds. -/
def part (S : Nat → ByteArray) (k : Nat) : Nat → Value := fun j => if j < k then .string (S j) else .string ⟨#[]⟩
theorem part_step {w : World} {b len k : Nat} {S : Nat → ByteArray} (h : w.rowIs b 9 len (part S k)) : (w.setCell ⟨b, k, none⟩ (.string (S k))).rowIs b 9 len (part S (k + 1)) := by
  refine (h.set k (.string (S k))).congr ?_
  intro j hj
  unfold part
  by_cases e : j = k
  · subst e; simp
  · rw [if_neg e]
    by_cases l : j < k
    · rw [if_pos l, if_pos (by omega)]
    · rw [if_neg l, if_neg (by omega)]

set_option maxHeartbeats 400000 in
theorem copy_some (x : Addr) (len cap : Nat) (S : Nat → ByteArray) (w : World) (hl : len ≤ 65536) (hS : Strs w (some x) len S) :
    Calls Try.prog 15 #[.slice (some x) len cap] w fun e w' => e = .returned (.slice (some ⟨w.heap.size, 0, none⟩) len len) ∧ w'.rowIs w.heap.size 9 len (fun k => .string (S k)) ∧ Below w.heap.size w w' := by
  have qT : ∀ (w : World) (a : Option Addr) (n c n' c' : Nat), (binOp .eql 30 (.slice a n c) (.slice none n' c')).run Try.prog w = .ok (.bool a.isNone) w := fun w a n c n' c' => Lib.run_eql_slice_nil w _ _ a n c n' c' Try.underlying30
  have hmk := run_make_row' (P := Try.prog) 30 9 (.string ⟨#[]⟩) 16 Try.underlying30 info9 rfl .i64 .i64 len (by omega) (by omega)
  have hst : (w.alloc (.cells (madeCells #[.string ⟨#[]⟩] len) 9)).rowIs w.heap.size 9 len (part S 0) := (World.rowIs_made w (.string ⟨#[]⟩) len 9).congr (fun i _ => by simp [part])
  have hbs : Below w.heap.size w (w.alloc (.cells (madeCells #[.string ⟨#[]⟩] len) 9)) := (Below.refl _ _).alloc (Nat.le_refl _) _
  have hend : ∀ wr : World, wr.rowIs w.heap.size 9 len (part S len) → wr.rowIs w.heap.size 9 len (fun k => .string (S k)) := fun wr h => h.congr (fun i hi => by simp [part, hi])
  have HE := hide hend
  have HS := hide hst
  have HB := hide hbs
  clear hend hst hbs
  rcases hS with h0 | ⟨b, off, hx, hc⟩
  · have h0' : len ≤ 0 := by omega
    clear h0
    go_enter Try.func15, Try.ntmps15
    go_wp2
    go_loopw [4] (fun i wr => i = .int .i64 0 ∧ wr.rowIs w.heap.size 9 len (part S 0) ∧ Below w.heap.size w wr) (fun i wr => 0)
    case atStart => exact ⟨rfl, unhide HS, unhide HB⟩
    case round =>
      obtain ⟨rfl, hr, hb⟩ := hrel
      go_wp2
      go_ret
      exact ⟨rfl, unhide HE _ (hr.congr fun i hi => absurd hi (by omega)), hb⟩
  · obtain rfl : x = ⟨b, off, none⟩ := by simpa using hx
    clear hx
    go_enter Try.func15, Try.ntmps15
    go_wp2
    go_loopw [4] (fun i wr => ∃ k : Nat, k ≤ len ∧ i = .int .i64 k ∧ wr.rowIs w.heap.size 9 len (part S k) ∧ Below w.heap.size w wr) (fun i wr => len - (intOf i).toNat)
    case atStart => exact ⟨0, Nat.zero_le _, rfl, unhide HS, unhide HB⟩
    case round =>
      obtain ⟨k, hk, rfl, hr, hb⟩ := hrel
      by_cases hlt : k < len
      · have hcell : wr.cell? ⟨b, off + k, none⟩ = some (.string (S k)) := (hb.cell (strs_lt (hc k hlt))).trans (hc k hlt)
        have hc2 := hr.cell hlt
        have hf2 := hr.frozen k
        have R := hide (part_step hr)
        have B := hide (hb.setCell (p := ⟨w.heap.size, k, none⟩) (Nat.le_refl _) (.string (S k)))
        clear hr hb
        go_wp2
        go_roundw
        case rel => exact ⟨k + 1, by omega, by go_num, unhide R, unhide B⟩
        case measure => simp [intOf]; omega
      · go_wp2
        go_ret
        obtain rfl : k = len := by omega
        exact ⟨rfl, unhide HE _ hr, hb⟩

end Go.Proofs.Qxb6604591a.Parts
