/- Seat b6602619a: (*countingSet).enter where the stopped runs are more than half: the live runs are moved to the front. -/
import Derived.Test.Qxb6602619aEnter
import Derived.Laws.CopyOwn
import Derived.Deep.RegionLaw
import Derived.BigRegion
namespace Go.Proofs.Qxb6602619a.Sets
open Go.ChangeShapes Go.WideShapes Go.ChangeAt Go.RowKit
open Reads
set_option linter.unusedVariables false

/-- 'copy' between two slices of runs (two cells an element), the target at the head of a row that is known whole. -/
theorem run_copy_runs (w : World) (ty : TypeId) (g dLen dCap : Nat) (a : Addr) (sLen sCap : Nat) (cur : Array Value) (cs : List Value)
    (hg : w.heap[g]? = some (.cells cur 40 (0, 0))) (hle : sLen ≤ dLen) (hn : cs.length = sLen * 2)
    (hsrc : ∀ j v, cs[j]? = some v → w.cell? (a.add j) = some v) (hfit : cs.length ≤ cur.size) (h1 : ∀ v ∈ cs, v.oneCell' = true) :
    (Builtin.copy_ #[38, 38] ty #[.slice (some ⟨g, 0, none⟩) dLen dCap, .slice (some a) sLen sCap]).run Try.prog w =
      .ok (goInt sLen) (w.setRow g (cur.toList.take 0 ++ cs ++ cur.toList.drop (0 + cs.length)).toArray) := by
  have hl := run_loadCells_list (P := Try.prog) w a cs hsrc
  have hst := run_storeCells_at Try.prog g 0 40 cs 0 cur w hg (by simpa using hfit) h1
  obtain ⟨i, hi, hz0, hz1, hz2⟩ := info_parts info40
  have hmin : Nat.min sLen dLen = sLen := Nat.min_eq_left hle
  simp [Builtin.copy_, run_underlying Try.underlying38, Builtin.lenOf, Builtin.firstCells, sizeOf, typeInfo, hi, hz1, hmin, ← hn, hl, hst]

/-- The numbers from h on. -/
def from_ (F : Nat → Int) (h : Nat) : Nat → Int := fun i => F (h + i)
theorem plist_drop (F L : Nat → Int) (h p : Nat) : (plist F L (h + p)).drop (h * 2) = plist (from_ F h) (from_ L h) p := by
  apply List.ext_getElem?
  intro j
  rw [List.getElem?_drop]
  by_cases hj : j < p * 2
  · rw [plist_at _ _ _ _ (by omega), plist_at _ _ _ _ hj]
    have e1 : (h * 2 + j) % 2 = j % 2 := by omega
    have e2 : (h * 2 + j) / 2 = h + j / 2 := by omega
    simp [pairs, from_, e1, e2]
  · rw [List.getElem?_eq_none (by rw [plist_length]; omega), List.getElem?_eq_none (by rw [plist_length]; omega)]
theorem plist_one (F L : Nat → Int) (N : Nat) : ∀ v ∈ plist F L N, v.oneCell' = true := by
  intro v hv
  unfold plist at hv
  obtain ⟨j, _, rfl⟩ := List.mem_map.1 hv
  unfold pairs; split <;> rfl

/-- What the move leaves, laid ahead of the walk. -/
theorem move_ahead {w : World} {B cb g h p : Nat} {k0 : Int} {F L : Nat → Int} (hL : Lies w B cb g (h + p) (h + p) k0 F L) :
    ∃ W2 : World, (∀ k ty, (Builtin.copy_ #[38, 38] ty #[.slice (some ⟨g, 0, none⟩) (h + p) (h + p), .slice (some ⟨g, h * 2, none⟩) p p]).run Try.prog (w.drewN k) = .ok (goInt p) (W2.drewN k)) ∧
      W2.heap[cb]? = w.heap[cb]? ∧ (W2.ownsRow B 40 2 (.slice (some ⟨g, 0, none⟩) p (h + p)) p (plist (from_ F h) (from_ L h) p)) ∧ Below B w W2 ∧ W2.heap.size = w.heap.size := by
  obtain ⟨cur, h1, h2, h3, h4, h5, h6⟩ := own_block hL.own
  have hcl : (plist (from_ F h) (from_ L h) p).length = p * 2 := plist_length _ _ _
  refine ⟨w.setRow g (cur.toList.take 0 ++ plist (from_ F h) (from_ L h) p ++ cur.toList.drop (0 + (plist (from_ F h) (from_ L h) p).length)).toArray, ?_, ?_, ?_, ?_, ?_⟩
  · intro k ty
    have := run_copy_runs (w.drewN k) ty g (h + p) (h + p) ⟨g, h * 2, none⟩ p p cur (plist (from_ F h) (from_ L h) p) h2 (by omega) hcl ?_ (by rw [hcl, h5]; omega) (plist_one _ _ _)
    · exact this
    · intro j v hv
      have hj : j < p * 2 := by
        rcases Nat.lt_or_ge j (p * 2) with hlt | hge
        · exact hlt
        · rw [List.getElem?_eq_none (by rw [hcl]; exact hge)] at hv; cases hv
      rw [← plist_drop, List.getElem?_drop, ← hL.own.cellAt (h * 2 + j) (by omega)] at hv
      show w.cell? _ = _
      rw [add_plain]
      exact hv
  · exact setRow_other w g cb _ (fun e => hL.ne e.symm)
  · refine ⟨hcl, .inr ⟨g, h + p, _, rfl, h1, setRow_heap w g cur _ 40 _ h2, by omega, h4, ?_, ?_⟩⟩
    · simp [hcl, h5]; omega
    · simp [hcl]
  · exact below_setRow (Below.refl _ _) h1 _
  · simp [World.setRow]

/-- .. and the box turned: the live runs alone, the head 0. -/
theorem moved {w W2 : World} {B cb g n p : Nat} {k0 : Int} {F L G K : Nat → Int} (hL : Lies w B cb g n n k0 F L) (hbox : W2.heap[cb]? = w.heap[cb]?) (hown : W2.ownsRow B 40 2 (.slice (some ⟨g, 0, none⟩) p n) p (plist G K p)) :
    Lies ((W2.setCell ⟨cb, 0, none⟩ (.slice (some ⟨g, 0, none⟩) p n)).setCell ⟨cb, 1, none⟩ (.int .i64 0)) B cb g n p 0 G K ∧
    W2.cell? ⟨cb, 0, none⟩ = some (.slice (some ⟨g, 0, none⟩) n n) ∧ W2.cell? ⟨cb, 1, none⟩ = some (.int .i64 k0) ∧ W2.frozen? ⟨cb, 0, none⟩ = false ∧ W2.frozen? ⟨cb, 1, none⟩ = false := by
  have hb := hbox.trans hL.box
  refine ⟨Lies.setHead (gh := k0) ⟨?_, ownsRow_setCell_other hown (by simpa [Value.ownBlock] using hL.ne) _, hL.above⟩ 0, ?_, ?_, ?_, ?_⟩
  · rw [heap_setCell_same W2 cb 0 _ 42 _ hb]; rfl
  · simp [World.cell?, hb]
  · simp [World.cell?, hb]
  · simp [World.frozen?, hb]
  · simp [World.frozen?, hb]

theorem run_new' (w : World) (H : Nat) (hH : w.heap.size = H) (p q : Int) (t : TypeId) : ∀ j u, ([.int .i64 p, .int .i64 q] : List Value)[j]? = some u → (w.alloc (.cells #[.int .i64 p, .int .i64 q] t)).cell? ((⟨H, 0, none⟩ : Addr).add j) = some u := by
  subst hH; exact run_new w p q t

set_option maxHeartbeats 1000000 in
/-- A new run at the end; the stopped runs are more than half: the live ones are moved to the front first. -/
theorem enter_move (B cb g m h p : Nat) (x : Int) (F L : Nat → Int) (w : World) (hn : m + 1 ≤ 65536) (hh : h ≤ m) (hp : Hid (m + 1 = h + p)) (x0 : -9223372036854775808 ≤ x) (x1 : x ≤ 9223372036854775807) (hx : L m < x) (l0 : -9223372036854775808 ≤ L m)
    (hu : L m ≠ x - 1) (hhalf : (m + 1) / 2 < h) (hL : Lies w B cb g (m + 1) (m + 1) h F L) :
    Calls Try.prog 19 #[.pointer (some ⟨cb, 0, none⟩), .int .i64 x, .bool false] w fun e w' => e = .returned (.tuple #[]) ∧ (∃ g' cap', Holds w' cb g' cap' (p + 1) 0 (snoc (from_ F h) p x) (snoc (from_ L h) p x)) ∧ Below B w w' := by
  have c0 := hL.cell0
  have c1 := hL.cell1
  have c2 := hL.cellL m (by omega)
  have f0 := hL.free 0
  have f1 := hL.free 1
  have hxb : (L m == x) = false := beq_eq_false_iff_ne.2 (by omega)
  have hhb : ((h : Int) == (m : Int) + 1) = false := beq_eq_false_iff_ne.2 (by omega)
  have hub : (L m == x - 1) = false := beq_eq_false_iff_ne.2 hu
  have hhi : ((m : Int) + 1) / 2 < (h : Int) := by omega
  have hhm : (h : Int) ≤ (m : Int) + 1 := by omega
  have hhm2 : h < m + 1 := by omega
  have hhm3 : ¬ (m + 1 = h) := by omega
  have hpm : p ≤ m + 1 := by have := hp.out; omega
  have hpi : (p : Int) ≤ (m : Int) + 1 := by omega
  obtain ⟨W2, hrun, hbox, hown2, hb2, hs2⟩ : ∃ W2 : World, (∀ k ty, (Builtin.copy_ #[38, 38] ty #[.slice (some ⟨g, 0, none⟩) (m + 1) (m + 1), .slice (some ⟨g, h * 2, none⟩) (m + 1 - h) (m + 1 - h)]).run Try.prog (w.drewN k) = .ok (.int .i64 (p : Int)) (W2.drewN k)) ∧
      W2.heap[cb]? = w.heap[cb]? ∧ (W2.ownsRow B 40 2 (.slice (some ⟨g, 0, none⟩) p (m + 1)) p (plist (from_ F h) (from_ L h) p)) ∧ Below B w W2 ∧ W2.heap.size = w.heap.size := by
    have e : m + 1 - h = p := by have := hp.out; omega
    rw [e]
    have hL2 := hL
    rw [hp.out] at hL2 ⊢
    exact move_ahead hL2
  obtain ⟨_, d0, d1, g0, g1⟩ := moved hL hbox hown2
  have HL3 := hide (fun N : Nat => (moved (W2 := W2.drewN N) hL hbox hown2).1)
  have hBh : ∀ N, B ≤ (((W2.drewN N).setCell ⟨cb, 0, none⟩ (.slice (some ⟨g, 0, none⟩) p (m + 1))).setCell ⟨cb, 1, none⟩ (.int .i64 0)).heap.size := fun N => Nat.le_of_lt (Nat.lt_of_le_of_lt (unhide HL3 N).above (lt_of_block (unhide HL3 N).box))
  have hBw : B ≤ W2.heap.size := by simpa using hBh 0
  have HBh := hide hBh
  have HB3 := hide (fun N : Nat => show Below B w (((W2.drewN N).setCell ⟨cb, 0, none⟩ (.slice (some ⟨g, 0, none⟩) p (m + 1))).setCell ⟨cb, 1, none⟩ (.int .i64 0)) from ((below_drewN hb2 N).setCell hL.above _).setCell hL.above _)
  clear hL hu hhalf hbox hown2 hb2 hs2 hBh
  go_enter Try.func19, Try.ntmps19
  go_wp2
  go_quiet (fail)
  go_wp2
  go_quiet (fail)
  go_wp2
  go_quiet (fail)
  go_wp2
  go_region
  go_wp2_with (at_builtin; refine wpList_append_run rfl (.tmp 84) (.tmp 88) rfl B g p (m + 1) (plist (from_ F h) (from_ L h) p) rfl (by exact (unhide HL3 _).own.alloc _) ⟨W2.heap.size, 0, none⟩ x x rfl (by exact run_new' _ W2.heap.size (by simp) x x 40) (by omega) (by simp; omega) ?_; intro g' cap' w1 hown hgrow; obtain ⟨e0, e2, R, BB⟩ := more_step (k := 0) (unhide HBh _) (hide (unhide HL3 _)) hown hgrow; clear hown hgrow)
  go_end0
  exact ⟨rfl, ⟨g', cap', unhide R⟩, (unhide HB3 _).trans (unhide BB)⟩
end Go.Proofs.Qxb6602619a.Sets
