/-
  The guards on lengths: each answers SOME bool and turns nothing. (What it answers is not asked: where it says no the laws return true at once.)
-/
import Derived.Test.Qxb6626086aOf
namespace Go.Proofs.Qxb6626086a
open Go.RowKit
set_option linter.unusedVariables false

/-- A slice of strings that came in holds ids. -/
def SrcS (w : World) (a : Option Addr) (ids : List ByteArray) : Prop :=
  (a = Option.none → ids = []) ∧ ∀ ad j u, a = some ad → (strs ids)[j]? = some u → w.cell? (ad.add j) = some u

theorem SrcS.at {w : World} {a : Option Addr} {ids : List ByteArray} (h : SrcS w a ids) (h0 : 0 < ids.length) : ∃ b off, a = some ⟨b, off, Option.none⟩ ∧ ∀ j, j < ids.length → w.cell? ⟨b, off + j, Option.none⟩ = some (.string (ids.getD j ByteArray.empty)) := by
  cases ha : a with
  | none => rw [h.1 ha] at h0; simp at h0
  | some ad =>
    have c0 := h.2 ad 0 _ ha (strs_at h0)
    obtain ⟨b, off, spot⟩ := ad
    have hs : spot = Option.none := by simpa [Addr.add] using World.cell?_spot c0
    subst hs
    refine ⟨b, off, rfl, fun j hj => ?_⟩
    have := h.2 _ j _ ha (strs_at hj)
    rwa [Addr.add_mid] at this

/-- It answers a bool. -/
def IsBool (e : Ending) : Prop := ∃ v, e = .returned (.bool v)
theorem isBool (v : Bool) : IsBool (.returned (.bool v)) := ⟨v, rfl⟩

set_option maxHeartbeats 800000 in
theorem guard5_some (b off n c : Nat) (I : Nat → ByteArray) (id : ByteArray) (i j : Int) (w : World) (hn : n ≤ maxLen) (hI : ∀ j, j < n → w.cell? ⟨b, off + j, Option.none⟩ = some (.string (I j))) :
    Calls Try.prog 5 #[.slice (some ⟨b, off, Option.none⟩) n c, .string id, .int .i64 i, .int .i64 j] w fun e w' => IsBool e ∧ w = w' := by
  unfold maxLen at hn
  have HI : Hid (∀ j, j < n → w.cell? ⟨b, off + j, Option.none⟩ = some (.string (I j))) := hI
  clear hI
  by_cases h1 : n ≤ 1048576
  · have hd : decide ((1048576 : Int) < (n : Int)) = false := by simp; omega
    go_enter Try.func5, Try.ntmps5
    go_wp2
    go_loop [9, 10] (fun z i => ∃ (t : Int) (k : Nat), k ≤ n ∧ i = .int .i64 k ∧ z = .int .i64 t) (fun _ i => n - (intOf i).toNat)
    case atStart => exact ⟨_, 0, Nat.zero_le _, rfl, rfl⟩
    case round =>
      obtain ⟨t, k, hk, rfl, rfl⟩ := hrel
      by_cases hlt : k < n
      · have cI := HI.out k hlt
        by_cases h2 : ((I k).size : Int) ≤ 1048576
        · by_cases h3 : wrap64 (t + ((I k).size : Int)) ≤ 1048576
          · go_wp2
            go_round
            case rel => exact ⟨_, k + 1, by omega, by go_num, rfl⟩
            case measure => simp [intOf]; omega
          · go_wp2
            go_ret
            exact ⟨isBool _, rfl⟩
        · go_wp2
          go_ret
          exact ⟨isBool _, rfl⟩
      · go_wp2
        all_goals (go_ret; exact ⟨isBool _, rfl⟩)
  · go_enter Try.func5, Try.ntmps5
    go_wp2
    go_ret
    exact ⟨isBool _, rfl⟩

set_option maxHeartbeats 800000 in
theorem guard5_none (a : Option Addr) (c : Nat) (id : ByteArray) (i j : Int) (w : World) :
    Calls Try.prog 5 #[.slice a 0 c, .string id, .int .i64 i, .int .i64 j] w fun e w' => IsBool e ∧ w = w' := by
  go_enter Try.func5, Try.ntmps5
  go_wp2
  go_loop [9, 10] (fun z i => i = .int .i64 0 ∧ z = .int .i64 0) (fun _ _ => 0)
  case atStart => exact ⟨rfl, rfl⟩
  case round =>
    obtain ⟨rfl, rfl⟩ := hrel
    go_wp2
    all_goals (go_ret; exact ⟨isBool _, rfl⟩)

theorem guard5_any {a : Option Addr} {n c : Nat} {ids : List ByteArray} {id : ByteArray} {i j : Int} {w : World} (hl : ids.length = n) (hn : n ≤ maxLen) (hs : SrcS w a ids) :
    Calls Try.prog 5 #[.slice a n c, .string id, .int .i64 i, .int .i64 j] w fun e w' => IsBool e ∧ w = w' := by
  by_cases h0 : 0 < ids.length
  · obtain ⟨b, off, rfl, hc⟩ := hs.at h0
    rw [hl] at hc
    exact guard5_some b off n c _ id i j w hn hc
  · have : n = 0 := by omega
    subst this
    exact guard5_none a c id i j w
end Go.Proofs.Qxb6626086a
