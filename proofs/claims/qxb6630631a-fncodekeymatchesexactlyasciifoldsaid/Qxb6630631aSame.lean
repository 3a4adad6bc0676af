/-
  THE WALKS OF 'sameUpToASCIICase', 'asciiFoldEqual' and the two guards on lengths.
-/
import Derived.Test.Qxb6630631aKey
import Derived.Laws.BitsAllLaws
import Derived.BigQuiet
import Derived.Deep.QuietTactic
namespace Go.Proofs.Qxb6630631a
open Go.RowKit Plain

theorem ret_bool {a b : Bool} (h : a = b) : Ending.returned (.bool a) = .returned (.bool b) := by rw [h]

theorem or_u8 (a : UInt8) : bits .or .u8 (a.toNat : Int) 32 = ((a.toNat ||| 32 : Nat) : Int) := u8_or_nat a.toNat 32 a.toNat_lt (by decide)

theorem way1 (a b : UInt8) (h : ((a.toNat : Int) == (b.toNat : Int)) = true) : true = sameB a.toNat b.toNat := by
  simp only [beq_iff_eq] at h
  have : a.toNat = b.toNat := by omega
  simp [sameB, this]

theorem way2 (a b : UInt8) (h1 : bits .or .u8 (a.toNat : Int) 32 = bits .or .u8 (b.toNat : Int) 32) (h2 : 97 ≤ bits .or .u8 (b.toNat : Int) 32) (h0 : ((a.toNat : Int) == (b.toNat : Int)) = false) :
    decide (bits .or .u8 (b.toNat : Int) 32 ≤ 122) = sameB a.toNat b.toNat := by
  rw [or_u8, or_u8] at h1
  rw [or_u8] at h2 ⊢
  have e : (a.toNat ||| 32) = (b.toNat ||| 32) := by omega
  have h0' : (a.toNat == b.toNat) = false := by
    simp only [beq_eq_false_iff_ne, ne_eq] at h0 ⊢
    omega
  unfold sameB
  rw [h0', e]
  have h2' : 97 ≤ (b.toNat ||| 32) := by omega
  simp [h2']
  omega

theorem way3 (a b : UInt8) (h1 : bits .or .u8 (a.toNat : Int) 32 = bits .or .u8 (b.toNat : Int) 32) (h2 : bits .or .u8 (b.toNat : Int) 32 < 97) (h0 : ((a.toNat : Int) == (b.toNat : Int)) = false) :
    false = sameB a.toNat b.toNat := by
  rw [or_u8, or_u8] at h1
  rw [or_u8] at h2
  have e : (a.toNat ||| 32) = (b.toNat ||| 32) := by omega
  have h0' : (a.toNat == b.toNat) = false := by
    simp only [beq_eq_false_iff_ne, ne_eq] at h0 ⊢
    omega
  unfold sameB
  rw [h0', e]
  have h2' : ¬ 97 ≤ (b.toNat ||| 32) := by omega
  simp [h2']

theorem way4 (a b : UInt8) (h1 : ¬ bits .or .u8 (a.toNat : Int) 32 = bits .or .u8 (b.toNat : Int) 32) (h0 : ((a.toNat : Int) == (b.toNat : Int)) = false) :
    false = sameB a.toNat b.toNat := by
  rw [or_u8, or_u8] at h1
  have e : ¬ (a.toNat ||| 32) = (b.toNat ||| 32) := by omega
  have h0' : (a.toNat == b.toNat) = false := by
    simp only [beq_eq_false_iff_ne, ne_eq] at h0 ⊢
    omega
  unfold sameB
  rw [h0']
  simp [e]

theorem same_any (a b : UInt8) (w : World) :
    Calls Try.prog 7 #[.int .u8 (a.toNat : Int), .int .u8 (b.toNat : Int)] w fun e w' => e = .returned (.bool (sameB a.toNat b.toNat)) ∧ w' = w := by
  have ha : a.toNat < 256 := a.toNat_lt
  have hb : b.toNat < 256 := b.toNat_lt
  go_enter Try.func7, Try.ntmps7
  go_wp2
  all_goals go_ret
  · exact ⟨ret_bool (way1 a b ‹_›), rfl⟩
  · exact ⟨ret_bool (way2 a b ‹_› ‹_› ‹_›), rfl⟩
  · exact ⟨ret_bool (way3 a b ‹_› ‹_› ‹_›), rfl⟩
  · exact ⟨ret_bool (way4 a b ‹_› ‹_›), rfl⟩

theorem guard5_any (s : ByteArray) (k : Int) (w : World) (hs : s.size ≤ maxLen) :
    Calls Try.prog 5 #[.string s, .int .i64 k] w fun e w' => e = .returned (.bool (decide (s.size ≤ 1048576))) ∧ w = w' := by
  unfold maxLen at hs
  by_cases h : s.size ≤ 1048576
  · go_enter Try.func5, Try.ntmps5
    go_wp2
    go_ret
    exact ⟨ret_bool (by simp [h]), rfl⟩
  · go_enter Try.func5, Try.ntmps5
    go_wp2
    go_ret
    exact ⟨ret_bool (by simp [h]), rfl⟩

theorem guard8_any (s t : ByteArray) (w : World) (hs : s.size ≤ maxLen) (ht : t.size ≤ maxLen) :
    Calls Try.prog 8 #[.string s, .string t] w fun e w' => e = .returned (.bool (decide (s.size + t.size ≤ 1048576))) ∧ w = w' := by
  unfold maxLen at hs ht
  by_cases h1 : s.size ≤ 1048576
  · by_cases h2 : t.size ≤ 1048576
    · by_cases h3 : s.size + t.size ≤ 1048576
      all_goals
        go_enter Try.func8, Try.ntmps8
        go_wp2
        go_ret
        exact ⟨ret_bool (by simp; omega), rfl⟩
    · go_enter Try.func8, Try.ntmps8
      go_wp2
      go_ret
      exact ⟨ret_bool (by simp; omega), rfl⟩
  · go_enter Try.func8, Try.ntmps8
    go_wp2
    go_ret
    exact ⟨ret_bool (by simp; omega), rfl⟩

/-- What 'asciiFoldEqual' gives. -/
def foldB (s t : ByteArray) : Bool := decide (capsOf s = capsOf t)

/-- The first k bytes agree up to case. -/
def AgreeTo (s t : ByteArray) (k : Nat) : Prop := ∀ j (h : j < s.size) (h' : j < t.size), j < k → up s[j] = up t[j]

theorem caps_eq_of {s t : ByteArray} (h : s.size = t.size) (ha : AgreeTo s t s.size) : foldB s t = true := by
  rw [foldB, decide_eq_true_eq, capsOf_eq_iff]
  exact ⟨h, fun k hk hk' => ha k hk hk' hk⟩

theorem caps_ne_at {s t : ByteArray} {k : Nat} (hs : k < s.size) (ht : k < t.size) (h : sameB s[k].toNat t[k].toNat = false) : foldB s t = false := by
  rw [foldB, decide_eq_false_iff_not, capsOf_eq_iff]
  rintro ⟨_, ha⟩
  have := (same_iff s[k] t[k]).2 (ha k hs ht)
  rw [h] at this
  cases this

theorem caps_ne_size {s t : ByteArray} (h : ¬ s.size = t.size) : foldB s t = false := by
  rw [foldB, decide_eq_false_iff_not, capsOf_eq_iff]
  exact fun hh => h hh.1

theorem agree_next {s t : ByteArray} {k : Nat} (hs : k < s.size) (ht : k < t.size) (h : sameB s[k].toNat t[k].toNat = true) (ha : AgreeTo s t k) : AgreeTo s t (k + 1) := by
  intro j h1 h2 h3
  by_cases e : j = k
  · subst e
    exact (same_iff s[j] t[j]).1 h
  · exact ha j h1 h2 (by omega)

theorem drawn_on {w wr : World} (h : ∃ n, wr = w.drewN n) (m : Nat) : ∃ n, wr.drewN m = w.drewN n := by
  obtain ⟨n, rfl⟩ := h
  exact ⟨n + m, World.drewN_drewN ..⟩

set_option maxHeartbeats 400000 in
theorem fold_any (s t : ByteArray) (w : World) (hs : s.size ≤ maxLen) :
    Calls Try.prog 9 #[.string s, .string t] w fun e w' => e = .returned (.bool (foldB s t)) ∧ ∃ n, w' = w.drewN n := by
  unfold maxLen at hs
  by_cases hst : s.size = t.size
  · have hst1 : ((s.size : Int) != (t.size : Int)) = false := by simp [hst]
    have HST : Hid (s.size = t.size) := hst
    have hst2 : (t.size : Int) ≤ s.size := by omega
    have hst3 : (s.size : Int) ≤ t.size := by omega
    clear hst
    go_enter Try.func9, Try.ntmps9
    go_wp2
    go_loopw [5] (fun i wr => ∃ k : Nat, k ≤ s.size ∧ i = .int .i64 k ∧ AgreeTo s t k ∧ ∃ n, wr = w.drewN n) (fun i _ => s.size - (intOf i).toNat)
    case atStart => exact ⟨0, Nat.zero_le _, rfl, fun j _ _ h => absurd h (Nat.not_lt_zero j), 0, rfl⟩
    case round =>
      obtain ⟨k, hk, rfl, hag, hn⟩ := hrel
      have HN : Hid (∃ n, wr = w.drewN n) := hn
      clear hn
      have HA : Hid (AgreeTo s t k) := hag
      clear hag
      by_cases hlt : k < s.size
      · have hlt' : k < t.size := by omega
        cases hsm : sameB s[k].toNat t[k].toNat with
        | true =>
          have R := agree_next hlt hlt' hsm HA.out
          have HS : Hid (sameB s[k].toNat t[k].toNat = true) := hsm
          go_wp2
          go_quiet ((go_at_call 7; exact Calls.quiet_of_same (same_any _ _ _)))
          go_wp2
          go_roundw
          case rel => exact ⟨k + 1, by omega, by go_num, R, drawn_on HN.out _⟩
          case measure => simp [intOf]; omega
        | false =>
          go_wp2
          go_quiet ((go_at_call 7; exact Calls.quiet_of_same (same_any _ _ _)))
          go_wp2
          go_ret
          exact ⟨ret_bool (caps_ne_at hlt hlt' hsm).symm, drawn_on HN.out _⟩
      · have hkk : k = s.size := by omega
        subst hkk
        have R := caps_eq_of HST.out HA.out
        go_wp2
        go_ret
        exact ⟨ret_bool R.symm, HN.out⟩
  · have hst1 : ((s.size : Int) != (t.size : Int)) = true := by simp; omega
    go_enter Try.func9, Try.ntmps9
    go_wp2
    go_ret
    exact ⟨ret_bool (caps_ne_size hst).symm, 0, rfl⟩
end Go.Proofs.Qxb6630631a
