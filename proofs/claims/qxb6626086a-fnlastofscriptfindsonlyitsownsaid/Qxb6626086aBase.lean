/-
  THE SEAT's COMMON PART: the plain functions, what a 'nodeClimbs' holds, 'ZZnewNodeClimbs'.
-/
import Derived.Test.Qxb6626086aRows
import Derived.WalkKit
import Derived.WalkLawsBesides
import Derived.BigQuiet
import Derived.Deep.QuietTactic
import Derived.Deep.MidRow
import Derived.Maps.OwnSet
namespace Go.Proofs.Qxb6626086a
open Go.RowKit
set_option linter.unusedVariables false

/-- The last of the first k places at which s stands. -/
def lastIdx (I : Nat → ByteArray) (s : ByteArray) : Nat → Option Nat
  | 0 => Option.none
  | k + 1 => if I k = s then some k else lastIdx I s k

/-- The zero value of 'workingSet'. -/
def Z48 : Value := .agg #[.string ⟨#[]⟩, .int .i64 0, .int .i64 0, .int .i64 0, .int .i64 0, .int .i64 0, .int .i64 0, .int .i64 0, .int .i64 0, .int .i64 0, .int .i64 0, .int .i32 0, .bool false, .int .i64 0, .int .i32 0, .bool false, .int .i8 0, .float .f32 0, .float .f32 0, .float .f32 0, .float .f32 0, .float .f32 0, .float .f32 0, .float .f32 0, .float .f32 0, .float .f32 0, .float .f32 0, .float .f32 0, .float .f32 0, .float .f32 0, .float .f32 0, .float .f32 0, .float .f32 0, .float .f32 0, .float .f32 0, .float .f32 0, .float .f32 0]
theorem info48 : (Try.prog.info? 48).map (fun i => (i.zero, i.size, i.bytes)) = some (some Z48, 37, 200) := by kernel_rfl
theorem size48 : Z48.cells.size = 37 := by kernel_rfl
theorem one48 : Z48.cells.all (·.oneCell') = true := by kernel_rfl

/-- Block S holds n working sets; the first k bear the ids of I. -/
def SetsTo (w : World) (S n k : Nat) (I : Nat → ByteArray) : Prop :=
  ∃ cur : Array Value, w.heap[S]? = some (.cells cur 48 (0, 0)) ∧ cur.size = n * 37 ∧ (∀ i, i < k → cur[i * 37]? = some (.string (I i))) ∧ ∀ v ∈ cur.toList, v.oneCell' = true

theorem sets_start {w : World} {B S n : Nat} {I : Nat → ByteArray} (h : w.ownsRow B 48 37 (.slice (some ⟨S, 0, none⟩) n n) n (madeCells Z48.cells (n * 37)).toList) : SetsTo w S n 0 I := by
  rcases h.2 with ⟨h', _⟩ | ⟨g', cap', cur, h', _, hg, _, _, hs, ht⟩
  · cases h'
  · simp only [Value.slice.injEq, Option.some.injEq, Addr.mk.injEq, and_true, true_and] at h'
    obtain ⟨rfl, rfl⟩ := h'
    refine ⟨cur, hg, hs, fun i hi => absurd hi (Nat.not_lt_zero i), ?_⟩
    have hc : cur.toList = (madeCells Z48.cells (n * 37)).toList := by
      rw [← ht, List.take_of_length_le (by rw [Array.length_toList, hs]; exact Nat.le_refl _)]
    rw [hc]
    intro v hv
    simp only [madeCells, Array.toList_map, List.mem_map] at hv
    obtain ⟨j, _, rfl⟩ := hv
    have hj : j % Z48.cells.size < Z48.cells.size := Nat.mod_lt _ (by rw [size48]; decide)
    rw [getElem!_pos Z48.cells _ hj]
    exact (Array.all_eq_true_iff_forall_mem.1 one48) _ (Array.getElem_mem hj)

theorem sets_cell {w : World} {S n k : Nat} {I : Nat → ByteArray} (h : SetsTo w S n k I) {j : Nat} (hj : j < n * 37) : (∃ u, w.cell? ⟨S, j, none⟩ = some u) ∧ w.frozen? ⟨S, j, none⟩ = false := by
  obtain ⟨cur, hg, hs, _⟩ := h
  exact ⟨⟨_, by rw [cell_of_row w S j cur 48 (0, 0) hg]; exact Array.getElem?_eq_getElem (by omega)⟩, by simp [World.frozen?, hg]⟩

theorem sets_lt {w : World} {S n k : Nat} {I : Nat → ByteArray} (h : SetsTo w S n k I) : S < w.heap.size := by
  obtain ⟨cur, hg, _⟩ := h
  exact lt_of_block hg

theorem sets_at {w : World} {S n k : Nat} {I : Nat → ByteArray} (h : SetsTo w S n k I) {i : Nat} (hi : i < k) : w.cell? ⟨S, i * 37, none⟩ = some (.string (I i)) := by
  obtain ⟨cur, hg, hs, hc, _⟩ := h
  rw [cell_of_row w S _ cur 48 (0, 0) hg]
  exact hc i hi

theorem sets_next {w : World} {S n k : Nat} {I : Nat → ByteArray} (h : SetsTo w S n k I) (hk : k < n) : SetsTo (w.setCell ⟨S, k * 37, none⟩ (.string (I k))) S n (k + 1) I := by
  obtain ⟨cur, hg, hs, hc, h1⟩ := h
  refine ⟨cur.setIfInBounds (k * 37) (.string (I k)), heap_setCell_same w S (k * 37) cur 48 _ hg, by simpa using hs, fun i hi => ?_, ?_⟩
  · by_cases e : i = k
    · subst e
      rw [Array.getElem?_setIfInBounds_self_of_lt (by omega)]
    · rw [Array.getElem?_setIfInBounds_ne (by omega)]
      exact hc i (by omega)
  · intro v hv
    rw [Array.toList_setIfInBounds] at hv
    rcases List.mem_or_eq_of_mem_set hv with h | h
    · exact h1 v h
    · subst h; rfl

theorem SetsTo.kept {w w' : World} {S n k : Nat} {I : Nat → ByteArray} (h : SetsTo w S n k I) (hb : w'.heap[S]? = w.heap[S]?) : SetsTo w' S n k I := by
  obtain ⟨cur, hg, r⟩ := h
  exact ⟨cur, hb.trans hg, r⟩

/-- A map as read holds, of each key, the last of the first k places at which it stands. -/
def Full (D : DataW Unit) (I : Nat → ByteArray) (k : Nat) : Prop :=
  ∀ s : ByteArray, Maps.has D (.string s.data.toList) = (lastIdx I s k).isSome ∧ ∀ z, D.atKey (.string s.data.toList) z = match lastIdx I s k with | some i => .lit (.int .i64 i) | Option.none => z

/-- What lies behind a '*nodeClimbs' at block NC: n working sets at block S under the ids of I; the map not made yet, or filled. -/
structure Climb (w : World) (NC S n : Nat) (I : Nat → ByteArray) (mv : Value) : Prop where
  sets : SetsTo w S n n I
  nc : ∃ cs : Array Value, w.heap[NC]? = some (.cells cs 57 (0, 0)) ∧ cs[0]? = some (.slice (some ⟨S, 0, none⟩) n n) ∧ cs[12]? = some mv
  map : mv = .map Option.none ∨ ∃ M D, mv = .map (some M) ∧ w.ownsMap (H := Unit) Try.prog 9 (plainElem Try.prog 3) M n D ∧ Full D I n

set_option maxHeartbeats 800000 in
theorem new_core (B g n c : Nat) (I : Nat → ByteArray) (w : World) (hB : B ≤ w.heap.size) (hn : n ≤ 65536) (hg : g < w.heap.size)
    (hI : ∀ j, j < n → w.cell? ⟨g, j, none⟩ = some (.string (I j))) :
    Calls Try.prog 6 #[.slice (some ⟨g, 0, none⟩) n c] w fun e w' => ∃ NC S, e = .returned (.pointer (some ⟨NC, 0, none⟩)) ∧ Climb w' NC S n I (.map Option.none) ∧ Below w.heap.size w w' ∧ w.heap.size ≤ NC := by
  obtain ⟨i0, hi, hz0, hz1, hz2⟩ := info_parts info48
  have HI : Hid (∀ j, j < n → w.cell? ⟨g, j, none⟩ = some (.string (I j))) := hI
  clear hI
  go_enter Try.func6, Try.ntmps6
  go_wp2_with (at_make; refine wpList_make_full _ rfl _ _ 38 rfl B 48 i0 Z48 37 Try.underlying38 hi hz0 hz1 _ _ _ _ n rfl rfl rfl rfl (by rw [hz2]; omega) (by unfold maxLen; omega) hB ?_; intro w1 hown1 hgrow1)
  clear hz0
  have HS1 : Hid (SetsTo w1 w.heap.size n 0 I) := sets_start hown1
  have HB1 : Hid (Below w.heap.size w w1) := (Below.refl _ _).grown hgrow1 (Nat.le_refl _) (fun k hk => by cases hk)
  clear hown1 hgrow1
  go_loopw [10] (fun i wr => ∃ k : Nat, k ≤ n ∧ i = .int .i64 k ∧ SetsTo wr w.heap.size n k I ∧ Below w.heap.size w wr) (fun i _ => n - (intOf i).toNat)
  case atStart => exact ⟨0, Nat.zero_le _, rfl, HS1.out, HB1.out⟩
  case round =>
    obtain ⟨k, hk, rfl, hs, hb⟩ := hrel
    have HS : Hid (SetsTo wr w.heap.size n k I) := hs
    have HB : Hid (Below w.heap.size w wr) := hb
    clear hs hb
    by_cases hlt : k < n
    · have cR : wr.cell? ⟨g, k, none⟩ = some (.string (I k)) := (HB.out.cell hg).trans (HI.out k hlt)
      obtain ⟨⟨u, cW⟩, fW⟩ := sets_cell HS.out (j := k * 37) (by omega)
      have HN : Hid (SetsTo (wr.setCell ⟨w.heap.size, k * 37, none⟩ (.string (I k))) w.heap.size n (k + 1) I) := sets_next HS.out hlt
      go_wp2
      go_roundw
      case rel => exact ⟨k + 1, by omega, by go_num, HN.out, HB.out.setCell (Nat.le_refl _) _⟩
      case measure => simp [intOf]; omega
    · have hkk : k = n := by omega
      subst hkk
      go_wp2
      go_ret
      exact ⟨wr.heap.size, w.heap.size, rfl, ⟨HS.out.kept (Below.heap_alloc _ _ _ (sets_lt HS.out)), ⟨_, heap_alloc_new wr _, rfl, rfl⟩, .inl rfl⟩, HB.out.alloc HB.out.size _, HB.out.size⟩

set_option maxHeartbeats 800000 in
theorem new_core0 (B c : Nat) (a : Option Addr) (I : Nat → ByteArray) (w : World) (hB : B ≤ w.heap.size) :
    Calls Try.prog 6 #[.slice a 0 c] w fun e w' => ∃ NC S, e = .returned (.pointer (some ⟨NC, 0, none⟩)) ∧ Climb w' NC S 0 I (.map Option.none) ∧ Below w.heap.size w w' ∧ w.heap.size ≤ NC := by
  obtain ⟨i0, hi, hz0, hz1, hz2⟩ := info_parts info48
  go_enter Try.func6, Try.ntmps6
  go_wp2_with (at_make; refine wpList_make_full _ rfl _ _ 38 rfl B 48 i0 Z48 37 Try.underlying38 hi hz0 hz1 _ _ _ _ 0 rfl rfl rfl rfl (by omega) (by unfold maxLen; omega) hB ?_; intro w1 hown1 hgrow1)
  clear hz0
  have HS1 : Hid (SetsTo w1 w.heap.size 0 0 I) := sets_start hown1
  have HB1 : Hid (Below w.heap.size w w1) := (Below.refl _ _).grown hgrow1 (Nat.le_refl _) (fun k hk => by cases hk)
  clear hown1 hgrow1
  go_loopw [10] (fun i wr => i = .int .i64 0 ∧ wr = w1) (fun _ _ => 0)
  case atStart => exact ⟨rfl, rfl⟩
  case round =>
    obtain ⟨rfl, rfl⟩ := hrel
    go_wp2
    go_ret
    exact ⟨wr.heap.size, w.heap.size, rfl, ⟨HS1.out.kept (Below.heap_alloc _ _ _ (sets_lt HS1.out)), ⟨_, heap_alloc_new wr _, rfl, rfl⟩, .inl rfl⟩, HB1.out.alloc HB1.out.size _, HB1.out.size⟩

def strs (ids : List ByteArray) : List Value := ids.map Value.string

theorem strs_at {ids : List ByteArray} {j : Nat} (h : j < ids.length) : (strs ids)[j]? = some (.string (ids.getD j ByteArray.empty)) := by
  simp [strs, h]

theorem own_shape {w : World} {B e n : Nat} {v : Value} {xs : List Value} (h : w.ownsRow B e 1 v n xs) : ∃ a c, v = .slice a n c := by
  rcases h.2 with ⟨rfl, rfl⟩ | ⟨g, cap, cur, rfl, _⟩
  · exact ⟨_, _, rfl⟩
  · exact ⟨_, _, rfl⟩

theorem own_at {w : World} {B e n : Nat} {v : Value} {xs : List Value} (h : w.ownsRow B e 1 v n xs) (hn : 0 < n) :
    ∃ g c, v = .slice (some ⟨g, 0, none⟩) n c ∧ B ≤ g ∧ g < w.heap.size ∧ ∀ j, j < n → w.cell? ⟨g, j, none⟩ = xs[j]? := by
  rcases h.2 with ⟨rfl, rfl⟩ | ⟨g, cap, cur, rfl, hg, hh, _⟩
  · omega
  · exact ⟨g, cap, rfl, hg, lt_of_block hh, fun j hj => h.cellAt j (by omega)⟩

theorem new_any {B : Nat} {va : Value} {ids : List ByteArray} {w : World} (hB : B ≤ w.heap.size) (hn : ids.length ≤ 65536) (ho : w.ownsRow B 9 1 va ids.length (strs ids)) :
    Calls Try.prog 6 #[va] w fun e w' => ∃ NC S, e = .returned (.pointer (some ⟨NC, 0, none⟩)) ∧ Climb w' NC S ids.length (fun j => ids.getD j ByteArray.empty) (.map Option.none) ∧ Below w.heap.size w w' ∧ w.heap.size ≤ NC := by
  by_cases h0 : 0 < ids.length
  · obtain ⟨g, c, rfl, _, hg, hc⟩ := own_at ho h0
    exact new_core B g ids.length c _ w hB hn hg (fun j hj => (hc j hj).trans (strs_at hj))
  · obtain ⟨a, c, rfl⟩ := own_shape ho
    have : ids = [] := List.eq_nil_of_length_eq_zero (by omega)
    subst this
    exact new_core0 B c a _ w hB
end Go.Proofs.Qxb6626086a
