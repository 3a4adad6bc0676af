/-
  'eqInts' and 'slices.Equal' over rows that the call itself has made ('ownsRow').
-/
import Derived.Test.Qxb6625806aBase
namespace Go.Proofs.Qxb6625806a
open Go.RowKit
set_option linter.unusedVariables false

theorem own_shape {w : World} {B e n : Nat} {v : Value} {xs : List Value} (h : w.ownsRow B e 1 v n xs) : ∃ a c, v = .slice a n c := by
  rcases h.2 with ⟨rfl, rfl⟩ | ⟨g, cap, cur, rfl, _⟩
  · exact ⟨_, _, rfl⟩
  · exact ⟨_, _, rfl⟩

theorem own_at {w : World} {B e n : Nat} {v : Value} {xs : List Value} (h : w.ownsRow B e 1 v n xs) (hn : 0 < n) :
    ∃ g c, v = .slice (some ⟨g, 0, none⟩) n c ∧ B ≤ g ∧ ∀ j, j < n → w.cell? ⟨g, j, none⟩ = xs[j]? := by
  rcases h.2 with ⟨rfl, rfl⟩ | ⟨g, cap, cur, rfl, hg, _⟩
  · omega
  · exact ⟨g, cap, rfl, hg, fun j hj => h.cellAt j (by omega)⟩

theorem own_len {w : World} {B e n : Nat} {v : Value} {xs : List Value} (h : w.ownsRow B e 1 v n xs) : n ≤ maxLen := by
  rcases h.2 with ⟨_, rfl⟩ | ⟨g, cap, cur, _, _, _, h1, h2, _⟩
  · exact Nat.zero_le _
  · omega

theorem eqInts_off (a b : Option Addr) (n m ca cb : Nat) (w : World) (hn : n ≤ maxLen) (hm : m ≤ maxLen) (h : ¬ n = m) :
    Calls Try.prog 7 #[.slice a n ca, .slice b m cb] w fun e w' => e = .returned (.bool false) ∧ ∃ n, w' = w.drewN n := by
  unfold maxLen at hn hm
  have hne : ((n : Int) != (m : Int)) = true := by simp; omega
  go_enter Try.func7, Try.ntmps7
  go_wp2
  go_ret
  exact ⟨rfl, 0, rfl⟩

theorem eqInts_nil (a b : Option Addr) (ca cb : Nat) (w : World) :
    Calls Try.prog 7 #[.slice a 0 ca, .slice b 0 cb] w fun e w' => e = .returned (.bool true) ∧ ∃ n, w' = w.drewN n := by
  go_enter Try.func7, Try.ntmps7
  go_wp2
  go_loop [5] (fun i => i = .int .i64 0) (fun _ => 0)
  case atStart => rfl
  case round =>
    subst hrel
    go_wp2
    go_ret
    exact ⟨rfl, 0, rfl⟩

theorem equal_off (a b : Option Addr) (n m ca cb : Nat) (w : World) (hn : n ≤ maxLen) (hm : m ≤ maxLen) (h : ¬ n = m) :
    Calls Try.prog 9 #[.slice a n ca, .slice b m cb] w fun e w' => e = .returned (.bool false) ∧ ∃ n, w' = w.drewN n := by
  unfold maxLen at hn hm
  have hne : ((n : Int) != (m : Int)) = true := by simp; omega
  go_enter Try.func9, Try.ntmps9
  go_wp2
  go_ret
  exact ⟨rfl, 0, rfl⟩

theorem equal_nil (a b : Option Addr) (ca cb : Nat) (w : World) :
    Calls Try.prog 9 #[.slice a 0 ca, .slice b 0 cb] w fun e w' => e = .returned (.bool true) ∧ ∃ n, w' = w.drewN n := by
  go_enter Try.func9, Try.ntmps9
  go_wp2
  go_loop [13] (fun i => i = .int .i64 0) (fun _ => 0)
  case atStart => rfl
  case round =>
    subst hrel
    go_wp2
    go_ret
    exact ⟨rfl, 0, rfl⟩

theorem allEq_lists {xs ys : List Int} (h : xs.length = ys.length) : allEq xs.length (fun j => xs.getD j 0) (fun j => ys.getD j 0) = decide (xs = ys) := by
  rw [Bool.eq_iff_iff, allEq_iff, decide_eq_true_eq]
  constructor
  · intro hh
    apply List.ext_getElem h
    intro i h1 h2
    have := hh i h1
    simpa [h1, h2] using this
  · rintro rfl j _
    rfl

theorem map_at {f : Int → Value} {xs : List Int} {j : Nat} (h : j < xs.length) : (xs.map f)[j]? = some (f (xs.getD j 0)) := by
  simp [h]

theorem eqInts_any {B : Nat} (va vb : Value) (xs ys : List Int) (w : World) (hA : w.ownsRow B 3 1 va xs.length (xs.map (Value.int .i64))) (hB : w.ownsRow B 3 1 vb ys.length (ys.map (Value.int .i64))) :
    Calls Try.prog 7 #[va, vb] w fun e w' => e = .returned (.bool (decide (xs = ys))) ∧ ∃ n, w' = w.drewN n := by
  have lA := own_len hA
  have lB := own_len hB
  by_cases hl : xs.length = ys.length
  · by_cases h0 : 0 < xs.length
    · obtain ⟨g1, c1, rfl, _, cA⟩ := own_at hA h0
      obtain ⟨g2, c2, rfl, _, cB⟩ := own_at hB (by omega)
      rw [← hl, ← allEq_lists hl]
      exact eqInts_same g1 g2 xs.length c1 c2 (fun j => xs.getD j 0) (fun j => ys.getD j 0) w lA (fun j hj => (cA j hj).trans (map_at hj)) (fun j hj => (cB j (by omega)).trans (map_at (by omega)))
    · obtain ⟨a, c, rfl⟩ := own_shape hA
      obtain ⟨b, c', rfl⟩ := own_shape hB
      obtain rfl : xs = [] := List.eq_nil_of_length_eq_zero (by omega)
      obtain rfl : ys = [] := List.eq_nil_of_length_eq_zero (by simpa using hl.symm)
      exact eqInts_nil a b c c' w
  · obtain ⟨a, c, rfl⟩ := own_shape hA
    obtain ⟨b, c', rfl⟩ := own_shape hB
    have : decide (xs = ys) = false := decide_eq_false (fun h => hl (by rw [h]))
    rw [this]
    exact eqInts_off a b _ _ c c' w lA lB hl

theorem equal_any {B : Nat} (va vb : Value) (xs ys : List Int) (w : World) (hA : w.ownsRow B 40 1 va xs.length (xs.map fun z => .iface 38 (.int .i64 z))) (hB : w.ownsRow B 40 1 vb ys.length (ys.map fun z => .iface 38 (.int .i64 z))) :
    Calls Try.prog 9 #[va, vb] w fun e w' => e = .returned (.bool (decide (xs = ys))) ∧ ∃ n, w' = w.drewN n := by
  have lA := own_len hA
  have lB := own_len hB
  by_cases hl : xs.length = ys.length
  · by_cases h0 : 0 < xs.length
    · obtain ⟨g1, c1, rfl, _, cA⟩ := own_at hA h0
      obtain ⟨g2, c2, rfl, _, cB⟩ := own_at hB (by omega)
      rw [← hl, ← allEq_lists hl]
      exact equal_same g1 g2 xs.length c1 c2 (fun j => xs.getD j 0) (fun j => ys.getD j 0) w lA (fun j hj => (cA j hj).trans (map_at hj)) (fun j hj => (cB j (by omega)).trans (map_at (by omega)))
    · obtain ⟨a, c, rfl⟩ := own_shape hA
      obtain ⟨b, c', rfl⟩ := own_shape hB
      obtain rfl : xs = [] := List.eq_nil_of_length_eq_zero (by omega)
      obtain rfl : ys = [] := List.eq_nil_of_length_eq_zero (by simpa using hl.symm)
      exact equal_nil a b c c' w
  · obtain ⟨a, c, rfl⟩ := own_shape hA
    obtain ⟨b, c', rfl⟩ := own_shape hB
    have : decide (xs = ys) = false := decide_eq_false (fun h => hl (by rw [h]))
    rw [this]
    exact equal_off a b _ _ c c' w lA lB hl
end Go.Proofs.Qxb6625806a
