/-
  THE SEAT's COMMON PART: the tables' rows, the guard on lengths, 'eqInts' and 'slices.Equal'.
-/
import Derived.Test.Qxb6625806aRows
import Derived.WalkKit
import Derived.WalkLawsBesides
import Derived.LaidEql
import Derived.BigQuiet
import Derived.Deep.QuietTactic
namespace Go.Proofs.Qxb6625806a
open Go.RowKit

theorem info3 : (Try.prog.info? 3).map (fun i => (i.zero, i.size, i.bytes)) = some (some (.int .i64 0), 1, 8) := by kernel_rfl
theorem info40 : (Try.prog.info? 40).map (fun i => (i.zero, i.size, i.bytes)) = some (some (.nilIface), 1, 16) := by kernel_rfl
theorem info31 : (Try.prog.info? 31).map (fun i => (i.zero, i.size, i.bytes)) = some (some (.pointer none), 1, 8) := by kernel_rfl
theorem comp38 : (Try.prog.info? 38).map (fun i => i.comparable) = some true := by kernel_rfl

theorem ret_bool {a b : Bool} (h : a = b) : Ending.returned (.bool a) = .returned (.bool b) := by rw [h]

/-- The first n places agree. -/
def allEq (n : Nat) (X Y : Nat → Int) : Bool := (List.range n).all fun j => X j == Y j

theorem allEq_true {n : Nat} {X Y : Nat → Int} (h : ∀ j, j < n → X j = Y j) : true = allEq n X Y := by
  symm
  unfold allEq
  rw [List.all_eq_true]
  intro j hj
  rw [beq_iff_eq]
  exact h j (List.mem_range.1 hj)

theorem allEq_false {n k : Nat} {X Y : Nat → Int} (hk : k < n) (h : (X k != Y k) = true) : false = allEq n X Y := by
  symm
  unfold allEq
  rw [List.all_eq_false]
  exact ⟨k, List.mem_range.2 hk, by simpa using h⟩

theorem allEq_iff (n : Nat) (X Y : Nat → Int) : allEq n X Y = true ↔ ∀ j, j < n → X j = Y j := by
  unfold allEq
  simp [List.all_eq_true]

theorem equalIn_iface (d : Nat) (x y : Int) (w : World) : (Op.equalIn (d + 2) 40 (.iface 38 (.int .i64 x)) (.iface 38 (.int .i64 y))).run Try.prog w = .ok (x == y) w := by
  obtain ⟨i, hi, hc⟩ := Option.map_eq_some_iff.1 comp38
  simp [Op.equalIn, run_underlying Try.underlying40, run_underlying Try.underlying38, typeInfo, hi, hc]

/-- '!=' between two interface values that hold the type 'Basic': as the numbers are. -/
theorem neq_iface (x y : Int) (w : World) : (binOp .neq 40 (.iface 38 (.int .i64 x)) (.iface 38 (.int .i64 y))).run Try.prog w = .ok (.bool (x != y)) w := by
  simp only [binOp]
  simp [Op.equal, Op.maxDepth, equalIn_iface 9998 x y w, bne]

theorem drawn_on {w wr : World} (h : ∃ n, wr = w.drewN n) (m : Nat) : ∃ n, wr.drewN m = w.drewN n := by
  obtain ⟨n, rfl⟩ := h
  exact ⟨n + m, World.drewN_drewN ..⟩

theorem guard4_any (a b : Option Addr) (n m ca cb : Nat) (w : World) (hn : n ≤ maxLen) (hm : m ≤ maxLen) :
    Calls Try.prog 4 #[.slice a n ca, .slice b m cb] w fun e w' => e = .returned (.bool (decide (n + m ≤ 1048576))) ∧ w = w' := by
  unfold maxLen at hn hm
  by_cases h1 : n ≤ 1048576
  · by_cases h2 : m ≤ 1048576
    · by_cases h3 : n + m ≤ 1048576
      all_goals
        go_enter Try.func4, Try.ntmps4
        go_wp2
        go_ret
        exact ⟨ret_bool (by simp; omega), rfl⟩
    · go_enter Try.func4, Try.ntmps4
      go_wp2
      go_ret
      exact ⟨ret_bool (by simp; omega), rfl⟩
  · go_enter Try.func4, Try.ntmps4
    go_wp2
    go_ret
    exact ⟨ret_bool (by simp; omega), rfl⟩

set_option maxHeartbeats 400000 in
theorem eqInts_same (g1 g2 n c1 c2 : Nat) (X Y : Nat → Int) (w : World) (hn : n ≤ maxLen)
    (hX : ∀ j, j < n → w.cell? ⟨g1, j, none⟩ = some (.int .i64 (X j))) (hY : ∀ j, j < n → w.cell? ⟨g2, j, none⟩ = some (.int .i64 (Y j))) :
    Calls Try.prog 7 #[.slice (some ⟨g1, 0, none⟩) n c1, .slice (some ⟨g2, 0, none⟩) n c2] w fun e w' => e = .returned (.bool (allEq n X Y)) ∧ ∃ n, w' = w.drewN n := by
  unfold maxLen at hn
  have HX : Hid (∀ j, j < n → w.cell? ⟨g1, j, none⟩ = some (.int .i64 (X j))) := hX
  have HY : Hid (∀ j, j < n → w.cell? ⟨g2, j, none⟩ = some (.int .i64 (Y j))) := hY
  clear hX hY
  have hne : ((n : Int) != (n : Int)) = false := by simp
  go_enter Try.func7, Try.ntmps7
  go_wp2
  go_loopw [5] (fun i wr => ∃ k : Nat, k ≤ n ∧ i = .int .i64 k ∧ (∀ j, j < k → X j = Y j) ∧ ∃ m, wr = w.drewN m) (fun i _ => n - (intOf i).toNat)
  case atStart => exact ⟨0, Nat.zero_le _, rfl, fun j h => absurd h (Nat.not_lt_zero j), 0, rfl⟩
  case round =>
    obtain ⟨k, hk, rfl, hag, hw⟩ := hrel
    have HA : Hid (∀ j, j < k → X j = Y j) := hag
    have HW : Hid (∃ m, wr = w.drewN m) := hw
    clear hag hw
    by_cases hlt : k < n
    · have cX : wr.cell? ⟨g1, k, none⟩ = some (.int .i64 (X k)) := by
        obtain ⟨m, rfl⟩ := HW.out; exact HX.out k hlt
      have cY : wr.cell? ⟨g2, k, none⟩ = some (.int .i64 (Y k)) := by
        obtain ⟨m, rfl⟩ := HW.out; exact HY.out k hlt
      have hlt' : (k : Int) < (n : Int) := by omega
      cases hxy : (X k != Y k) with
      | true =>
        go_wp2
        go_quiet (fail)
        go_wp2
        go_ret
        exact ⟨ret_bool (allEq_false hlt hxy), drawn_on HW.out _⟩
      | false =>
        have R : ∀ j, j < k + 1 → X j = Y j := by
          intro j hj
          by_cases e : j = k
          · subst e; simpa using hxy
          · exact HA.out j (by omega)
        have HR := R
        clear R
        have HR' : Hid (∀ j, j < k + 1 → X j = Y j) := HR
        clear HR
        go_wp2
        go_quiet (fail)
        go_wp2
        go_roundw
        case rel => exact ⟨k + 1, by omega, by go_num, HR'.out, drawn_on HW.out _⟩
        case measure => simp [intOf]; omega
    · have hkk : k = n := by omega
      subst hkk
      go_wp2
      go_ret
      exact ⟨ret_bool (allEq_true HA.out), HW.out⟩

set_option maxHeartbeats 400000 in
theorem equal_same (g1 g2 n c1 c2 : Nat) (X Y : Nat → Int) (w : World) (hn : n ≤ maxLen)
    (hX : ∀ j, j < n → w.cell? ⟨g1, j, none⟩ = some (.iface 38 (.int .i64 (X j)))) (hY : ∀ j, j < n → w.cell? ⟨g2, j, none⟩ = some (.iface 38 (.int .i64 (Y j)))) :
    Calls Try.prog 9 #[.slice (some ⟨g1, 0, none⟩) n c1, .slice (some ⟨g2, 0, none⟩) n c2] w fun e w' => e = .returned (.bool (allEq n X Y)) ∧ ∃ n, w' = w.drewN n := by
  unfold maxLen at hn
  have HX : Hid (∀ j, j < n → w.cell? ⟨g1, j, none⟩ = some (.iface 38 (.int .i64 (X j)))) := hX
  have HY : Hid (∀ j, j < n → w.cell? ⟨g2, j, none⟩ = some (.iface 38 (.int .i64 (Y j)))) := hY
  clear hX hY
  have hne : ((n : Int) != (n : Int)) = false := by simp
  have hnq := neq_iface
  go_enter Try.func9, Try.ntmps9
  go_wp2
  go_loopw [13] (fun i wr => ∃ k : Nat, k ≤ n ∧ i = .int .i64 k ∧ (∀ j, j < k → X j = Y j) ∧ ∃ m, wr = w.drewN m) (fun i _ => n - (intOf i).toNat)
  case atStart => exact ⟨0, Nat.zero_le _, rfl, fun j h => absurd h (Nat.not_lt_zero j), 0, rfl⟩
  case round =>
    obtain ⟨k, hk, rfl, hag, hw⟩ := hrel
    have HA : Hid (∀ j, j < k → X j = Y j) := hag
    have HW : Hid (∃ m, wr = w.drewN m) := hw
    clear hag hw
    by_cases hlt : k < n
    · have cX : wr.cell? ⟨g1, k, none⟩ = some (.iface 38 (.int .i64 (X k))) := by
        obtain ⟨m, rfl⟩ := HW.out; exact HX.out k hlt
      have cY : wr.cell? ⟨g2, k, none⟩ = some (.iface 38 (.int .i64 (Y k))) := by
        obtain ⟨m, rfl⟩ := HW.out; exact HY.out k hlt
      have hlt' : (k : Int) < (n : Int) := by omega
      cases hxy : (X k != Y k) with
      | true =>
        go_wp2
        go_quiet (fail)
        go_wp2
        go_ret
        exact ⟨ret_bool (allEq_false hlt hxy), drawn_on HW.out _⟩
      | false =>
        have R : ∀ j, j < k + 1 → X j = Y j := by
          intro j hj
          by_cases e : j = k
          · subst e; simpa using hxy
          · exact HA.out j (by omega)
        have HR := R
        clear R
        have HR' : Hid (∀ j, j < k + 1 → X j = Y j) := HR
        clear HR
        go_wp2
        go_quiet (fail)
        go_wp2
        go_roundw
        case rel => exact ⟨k + 1, by omega, by go_num, HR'.out, drawn_on HW.out _⟩
        case measure => simp [intOf]; omega
    · have hkk : k = n := by omega
      subst hkk
      go_wp2
      go_ret
      exact ⟨ret_bool (allEq_true HA.out), HW.out⟩
end Go.Proofs.Qxb6625806a
