/-
  The script that came in; the guard on lengths of 'FnLastOfScriptFindsOnlyItsOwn'.
-/
import Derived.Test.Qxb6626086aHint
namespace Go.Proofs.Qxb6626086a
open Go.RowKit
set_option linter.unusedVariables false

/-- A slice of strings that came in reads, place by place, as I. -/
def ReadsS (w : World) (a : Option Addr) (n : Nat) (I : Nat → ByteArray) : Prop :=
  ∀ k, k < n → ∃ b off, a = some ⟨b, off, Option.none⟩ ∧ w.cell? ⟨b, off + k, Option.none⟩ = some (.string (I k))

/-- A script that came in reads, place by place, as the ids Q and the hints X. -/
def ReadsQ (w : World) (a : Option Addr) (m : Nat) (Q : Nat → ByteArray) (X : Nat → Int) : Prop :=
  ∀ q, q < m → ∃ b off, a = some ⟨b, off, Option.none⟩ ∧ w.cell? ⟨b, off + q * 2, Option.none⟩ = some (.string (Q q)) ∧ w.cell? ⟨b, off + q * 2 + 1, Option.none⟩ = some (.int .i64 (X q))

theorem SrcS.reads {w : World} {a : Option Addr} {ids : List ByteArray} {n : Nat} (h : SrcS w a ids) (hl : ids.length = n) : ReadsS w a n (fun j => ids.getD j ByteArray.empty) := by
  intro k hk
  obtain ⟨b, off, e, hc⟩ := h.at (by omega)
  exact ⟨b, off, e, hc k (by omega)⟩

set_option maxHeartbeats 1000000 in
theorem guard9_any (a a1 : Option Addr) (n c m c1 : Nat) (I Q : Nat → ByteArray) (X : Nat → Int) (w : World) (hn : n ≤ maxLen) (hm : m ≤ maxLen) (hI : ReadsS w a n I) (hQ : ReadsQ w a1 m Q X) :
    Calls Try.prog 9 #[.slice a n c, .slice a1 m c1] w fun e w' => IsBool e ∧ w = w' := by
  unfold maxLen at hn hm
  have HI : Hid (ReadsS w a n I) := hI
  have HQ : Hid (ReadsQ w a1 m Q X) := hQ
  clear hI hQ
  by_cases h1 : n ≤ 1048576
  · have hd : decide ((1048576 : Int) < (n : Int)) = false := by simp; omega
    go_enter Try.func9, Try.ntmps9
    go_wp2
    go_loop [5, 6] (fun z i => ∃ (t : Int) (k : Nat), k ≤ n ∧ i = .int .i64 k ∧ z = .int .i64 t) (fun _ i => n - (intOf i).toNat)
    case atStart => exact ⟨_, 0, Nat.zero_le _, rfl, rfl⟩
    case round =>
      obtain ⟨t, k, hk, rfl, rfl⟩ := hrel
      by_cases hlt : k < n
      · obtain ⟨b, off, ha, cI⟩ := HI.out k hlt
        subst ha
        by_cases h2 : ((I k).size : Int) ≤ 1048576
        · by_cases h3 : wrap64 (t + ((I k).size : Int)) ≤ 1048576
          · go_wp2
            go_round
            case rel => exact ⟨_, k + 1, by omega, by go_num, rfl⟩
            case measure => simp [intOf]; omega
          · go_wp2
            go_ret
            exact ⟨isBool _, rfl⟩
        · go_wp2
          go_ret
          exact ⟨isBool _, rfl⟩
      · by_cases h4 : m ≤ 1048576
        · by_cases h5 : wrap64 (t + (m : Int)) ≤ 1048576
          · have hd4 : decide ((1048576 : Int) < (m : Int)) = false := by simp; omega
            have hd5 : decide ((1048576 : Int) < wrap64 (t + (m : Int))) = false := by simp; omega
            go_wp2
            go_loop [5, 7] (fun z i => ∃ (t : Int) (k : Nat), k ≤ m ∧ i = .int .i64 k ∧ z = .int .i64 t) (fun _ i => m - (intOf i).toNat)
            case atStart => exact ⟨_, 0, Nat.zero_le _, rfl, rfl⟩
            case round =>
              obtain ⟨t2, q, hq, rfl, rfl⟩ := hrel
              by_cases hlq : q < m
              · obtain ⟨b, off, ha, cQ, cX⟩ := HQ.out q hlq
                subst ha
                by_cases h2 : ((Q q).size : Int) ≤ 1048576
                · by_cases h3 : wrap64 (t2 + ((Q q).size : Int)) ≤ 1048576
                  · go_wp2
                    go_round
                    case rel => exact ⟨_, q + 1, by omega, by go_num, rfl⟩
                    case measure => simp [intOf]; omega
                  · go_wp2
                    go_ret
                    exact ⟨isBool _, rfl⟩
                · go_wp2
                  go_ret
                  exact ⟨isBool _, rfl⟩
              · go_wp2
                go_ret
                exact ⟨isBool _, rfl⟩
          · go_wp2
            go_ret
            exact ⟨isBool _, rfl⟩
        · go_wp2
          go_ret
          exact ⟨isBool _, rfl⟩
  · go_enter Try.func9, Try.ntmps9
    go_wp2
    go_ret
    exact ⟨isBool _, rfl⟩
end Go.Proofs.Qxb6626086a
