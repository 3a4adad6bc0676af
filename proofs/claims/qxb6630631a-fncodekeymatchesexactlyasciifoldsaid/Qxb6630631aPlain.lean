/-
  THE PLAIN PART of the seat's two laws: bytes and lists alone; nothing of the program's translation.
-/
namespace Go.Proofs.Qxb6630631a.Plain

/-- A byte's capital: the letters a to z made capitals, every other byte left. -/
def up (b : UInt8) : UInt8 := if 97 ≤ b.toNat ∧ b.toNat ≤ 122 then b - 32 else b

/-- What 'CodeKey' gives. -/
def capsOf (s : ByteArray) : ByteArray := ⟨s.data.map up⟩

/-- What 'sameUpToASCIICase' gives, on numbers. -/
def sameB (x y : Nat) : Bool := x == y || ((x ||| 32) == (y ||| 32) && decide (97 ≤ (x ||| 32)) && decide ((x ||| 32) ≤ 122))

theorem up_toNat (b : UInt8) : (up b).toNat = if 97 ≤ b.toNat ∧ b.toNat ≤ 122 then b.toNat - 32 else b.toNat := by
  unfold up
  split
  · rename_i h
    rw [UInt8.toNat_sub_of_le _ _ (by rw [UInt8.le_iff_toNat_le]; simp; omega)]
    simp
  · rfl

theorem or32 : ∀ x : Fin 256, ((97 ≤ (x.val ||| 32) ∧ (x.val ||| 32) ≤ 122) ↔ ((65 ≤ x.val ∧ x.val ≤ 90) ∨ (97 ≤ x.val ∧ x.val ≤ 122))) ∧ ((65 ≤ x.val ∧ x.val ≤ 90) → (x.val ||| 32) = x.val + 32) ∧ ((97 ≤ x.val ∧ x.val ≤ 122) → (x.val ||| 32) = x.val) := by
  decide +kernel

theorem same_iff (a b : UInt8) : sameB a.toNat b.toNat = true ↔ up a = up b := by
  have ha := or32 ⟨a.toNat, a.toNat_lt⟩
  have hb := or32 ⟨b.toNat, b.toNat_lt⟩
  simp only at ha hb
  rw [← UInt8.toNat_inj, up_toNat, up_toNat]
  unfold sameB
  simp only [Bool.or_eq_true, Bool.and_eq_true, beq_iff_eq, decide_eq_true_eq]
  generalize a.toNat ||| 32 = la at ha ⊢
  generalize b.toNat ||| 32 = lb at hb ⊢
  constructor
  · intro h
    split <;> split <;> omega
  · intro h
    split at h <;> split at h <;> omega

theorem up_up (a : UInt8) : up (up a) = up a := by
  rw [← UInt8.toNat_inj, up_toNat (up a), up_toNat a]
  by_cases h : 97 ≤ a.toNat ∧ a.toNat ≤ 122
  · rw [if_pos h, if_neg (by omega)]
  · rw [if_neg h, if_neg h]

theorem up_not_low (a : UInt8) : ¬ (97 ≤ (up a).toNat ∧ (up a).toNat ≤ 122) := by
  rw [up_toNat]
  split <;> omega

theorem same_up (a : UInt8) : sameB (up a).toNat a.toNat = true := by
  rw [same_iff, up_up]

theorem capsOf_size (s : ByteArray) : (capsOf s).size = s.size := by
  show (s.data.map up).size = s.data.size
  simp

theorem capsOf_get (s : ByteArray) (k : Nat) (h : k < s.size) (h' : k < (capsOf s).size) : (capsOf s)[k] = up s[k] := by
  exact Array.getElem_map (xs := s.data) (f := up) _

theorem capsOf_capsOf (s : ByteArray) : capsOf (capsOf s) = capsOf s := by
  unfold capsOf
  simp only [Array.map_map]
  congr 1
  apply Array.map_congr_left
  intro a _
  exact up_up a

theorem capsOf_append (a b : ByteArray) : capsOf (a ++ b) = capsOf a ++ capsOf b := by
  apply ByteArray.ext
  unfold capsOf
  simp

/-- What 'asciiFoldEqual' gives. -/
def foldEq (s t : ByteArray) : Bool := capsOf s == capsOf t

theorem capsOf_eq_iff (s t : ByteArray) : capsOf s = capsOf t ↔ s.size = t.size ∧ ∀ k (h : k < s.size) (h' : k < t.size), up s[k] = up t[k] := by
  constructor
  · intro h
    have hsz : s.size = t.size := by rw [← capsOf_size s, ← capsOf_size t, h]
    refine ⟨hsz, fun k hk hk' => ?_⟩
    rw [← capsOf_get s k hk (by rw [capsOf_size]; exact hk), ← capsOf_get t k hk' (by rw [capsOf_size]; exact hk')]
    congr 1
  · rintro ⟨hsz, h⟩
    apply ByteArray.ext
    apply Array.ext
    · show (capsOf s).size = (capsOf t).size
      rw [capsOf_size, capsOf_size, hsz]
    · intro i h1 h2
      have h1' : i < s.size := by rw [← capsOf_size s]; exact h1
      have h2' : i < t.size := by rw [← capsOf_size t]; exact h2
      show (capsOf s)[i]'h1 = (capsOf t)[i]'h2
      rw [capsOf_get s i h1', capsOf_get t i h2']
      exact h i h1' h2'
end Go.Proofs.Qxb6630631a.Plain
