/- Seat b6602619a: ZZCountingSetEnter: a set laid, entered, read off. -/
import Derived.Test.Qxb6602619aMove
namespace Go.Proofs.Qxb6602619a.Sets
open Go.ChangeShapes Go.WideShapes Go.ChangeAt Go.RowKit
open Reads
set_option linter.unusedVariables false

/-- What 'enter' does to a set of n runs: N runs GF, GL, the head gh. -/
def Enters (n : Nat) (h x : Int) (u : Bool) (F L : Nat → Int) (N : Nat) (gh : Int) (GF GL : Nat → Int) : Prop :=
  ∀ (B cb g : Nat) (w : World), Lies w B cb g n n h F L →
    Calls Try.prog 19 #[.pointer (some ⟨cb, 0, none⟩), .int .i64 x, .bool u] w fun e w' => e = .returned (.tuple #[]) ∧ (∃ g' cap', Holds w' cb g' cap' N gh GF GL) ∧ Below B w w'

set_option maxHeartbeats 400000 in
theorem zzEnter (a0 : Option Addr) (n c0 : Nat) (a1 : Option Addr) (c1 : Nat) (h x : Int) (u : Bool) (F L : Nat → Int) (N : Nat) (gh : Int) (GF GL : Nat → Int) (w : World) (hn : n ≤ 65536) (hN : N ≤ 65537)
    (hE : Enters n h x u F L N gh GF GL) (h0 : Ints w a0 n F) (h1 : Ints w a1 n L) :
    Calls Try.prog 11 #[.slice a0 n c0, .slice a1 n c1, .int .i64 h, .int .i64 x, .bool u] w fun e w' => ∃ b1 b2, e = .returned (.tuple #[.slice (some ⟨b1, 0, none⟩) N N, .slice (some ⟨b2, 0, none⟩) N N, .int .i64 gh]) ∧
      Ints w' (some ⟨b1, 0, none⟩) N GF ∧ Ints w' (some ⟨b2, 0, none⟩) N GL ∧ Below w.heap.size w w' := by
  have HH0 := hide h0
  have HH1 := hide h1
  have HE := hide hE
  clear h0 h1 hE
  go_enter Try.func11, Try.ntmps11
  go_wp2_with fail
  refine (setOf a0 n c0 a1 c1 h F L _ hn (unhide HH0) (unhide HH1)).mono ?_
  rintro e w1 ⟨cb, rfl, hcb, hbox, hrow, hb1⟩
  have HL := hide (show Lies w1 w.heap.size cb w.heap.size n n h F L from ⟨hbox, own_of_row hrow (Nat.le_refl _) (by unfold maxLen; omega), Nat.le_of_lt hcb⟩)
  clear hbox hrow hcb
  go_wp2_with fail
  refine (unhide HE _ _ _ _ (unhide HL)).mono ?_
  rintro e w2 ⟨rfl, ⟨g', cap', hH⟩, hb2⟩
  go_wp2_with fail
  refine (setParts cb g' cap' N gh GF GL _ hN hH).mono ?_
  rintro e w3 ⟨rfl, hi1, hi2, hb3⟩
  go_wp2
  go_ret3
  exact ⟨_, _, rfl, hi1, hi2, (hb1.trans hb2).trans (hb3.mono (Nat.le_trans hb1.size hb2.size))⟩
end Go.Proofs.Qxb6602619a.Sets
