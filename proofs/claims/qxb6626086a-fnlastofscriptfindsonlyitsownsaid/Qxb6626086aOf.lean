/-
  '(*nodeClimbs).lastOf', 'ZZlastOf', 'ZZsetAt'.
-/
import Derived.Test.Qxb6626086aFill
namespace Go.Proofs.Qxb6626086a
open Go.RowKit Go.Maps
set_option linter.unusedVariables false

/-- What 'lastOf' finds: the hinted place where it bears the id, else the last place that does. -/
def ofIdx (I : Nat → ByteArray) (n : Nat) (id : ByteArray) (h : Int) : Option Nat := if 0 ≤ h ∧ h < n ∧ I h.toNat = id then some h.toNat else lastIdx I id n

theorem texts_eq (a b : ByteArray) : (a.toList == b.toList) = decide (a = b) := by
  rw [ByteArray.toList_eq, ByteArray.toList_eq]
  by_cases h : a = b
  · subst h; simp
  · simp only [h, decide_false]
    rw [beq_eq_false_iff_ne]
    intro hh
    exact h (WideShapes.bytes_inj hh)

theorem Climb.drewN {w : World} {NC S n : Nat} {I : Nat → ByteArray} {mv : Value} (h : Climb w NC S n I mv) (q : Nat) : Climb (w.drewN q) NC S n I mv := ⟨h.sets, h.nc, h.map⟩

set_option maxHeartbeats 400000 in
theorem of_hit (NC S n C k : Nat) (I : Nat → ByteArray) (mv : Value) (id : ByteArray) (w : World) (hn : n ≤ 65536) (hC : Climb w NC S n I mv) (hc : w.cell? ⟨C, 0, Option.none⟩ = some (.string id)) (hk : k < n) (he : I k = id) :
    Calls Try.prog 10 #[.pointer (some ⟨NC, 0, Option.none⟩), .pointer (some ⟨C, 0, Option.none⟩), .int .i64 (k : Int)] w fun e w' => e = .returned (.pointer (some ⟨S, k * 37, Option.none⟩)) ∧ ∃ q, w' = w.drewN q := by
  have c0 := hC.cell0
  have cs := sets_at hC.sets hk
  have heq : ((I k).toList == id.toList) = true := by rw [texts_eq, he]; simp
  have h0 : (0 : Int) ≤ (k : Int) := by omega
  have h1 : (k : Int) < (n : Int) := by omega
  clear hC he
  go_enter Try.func10, Try.ntmps10
  go_wp2_with fail
  go_quiet (fail)
  go_wp2
  go_ret
  exact ⟨rfl, _, rfl⟩

set_option maxHeartbeats 400000 in
theorem of_low (NC S n C : Nat) (h : Int) (I : Nat → ByteArray) (mv : Value) (id : ByteArray) (w : World) (hid : id.size ≤ maxLen) (hn : n ≤ 65536) (hI : ∀ j, j < n → (I j).size ≤ maxLen) (hC : Climb w NC S n I mv) (hc : w.cell? ⟨C, 0, Option.none⟩ = some (.string id)) (hh : h < 0) :
    Calls Try.prog 10 #[.pointer (some ⟨NC, 0, Option.none⟩), .pointer (some ⟨C, 0, Option.none⟩), .int .i64 h] w fun e w' => e = .returned (ptrOf S (lastIdx I id n)) ∧ (∃ mv, Climb w' NC S n I mv) ∧ w.grownBy w' (some NC) := by
  have c0 := hC.cell0
  have hd : decide (0 ≤ h) = false := by simp; omega
  have HK : Hid (∀ q, Calls Try.prog 11 #[.pointer (some ⟨NC, 0, Option.none⟩), .string id] (w.drewN q) fun e w' => e = .returned (ptrOf S (lastIdx I id n)) ∧ (∃ mv, Climb w' NC S n I mv) ∧ (w.drewN q).grownBy w' (some NC)) := fun q => last_any hid hn hI (hC.drewN q)
  have HP : Hid (∃ v, v = ptrOf S (lastIdx I id n)) := ⟨_, rfl⟩
  clear hC hI
  go_enter Try.func10, Try.ntmps10
  go_wp2_with fail
  go_quiet (fail)
  go_wp2_with fail
  refine (HK.out _).mono ?_
  rintro e w' ⟨rfl, hcl, hg⟩
  have HCl : Hid (∃ mv, Climb w' NC S n I mv) := hcl
  have HG : Hid (w.grownBy w' (some NC)) := ⟨hg.os, hg.tape, hg.output, hg.size, hg.block⟩
  clear hcl hg
  obtain ⟨v, hv⟩ := HP.out
  rw [← hv]
  go_wp2
  go_ret
  exact ⟨rfl, HCl.out, HG.out⟩

set_option maxHeartbeats 400000 in
theorem of_high (NC S n C : Nat) (h : Int) (I : Nat → ByteArray) (mv : Value) (id : ByteArray) (w : World) (hid : id.size ≤ maxLen) (hn : n ≤ 65536) (hI : ∀ j, j < n → (I j).size ≤ maxLen) (hC : Climb w NC S n I mv) (hc : w.cell? ⟨C, 0, Option.none⟩ = some (.string id)) (h0 : 0 ≤ h) (hh : (n : Int) ≤ h) :
    Calls Try.prog 10 #[.pointer (some ⟨NC, 0, Option.none⟩), .pointer (some ⟨C, 0, Option.none⟩), .int .i64 h] w fun e w' => e = .returned (ptrOf S (lastIdx I id n)) ∧ (∃ mv, Climb w' NC S n I mv) ∧ w.grownBy w' (some NC) := by
  have c0 := hC.cell0
  have hd : decide (h < (n : Int)) = false := by simp; omega
  have HK : Hid (∀ q, Calls Try.prog 11 #[.pointer (some ⟨NC, 0, Option.none⟩), .string id] (w.drewN q) fun e w' => e = .returned (ptrOf S (lastIdx I id n)) ∧ (∃ mv, Climb w' NC S n I mv) ∧ (w.drewN q).grownBy w' (some NC)) := fun q => last_any hid hn hI (hC.drewN q)
  have HP : Hid (∃ v, v = ptrOf S (lastIdx I id n)) := ⟨_, rfl⟩
  clear hC hI
  go_enter Try.func10, Try.ntmps10
  go_wp2_with fail
  go_quiet (fail)
  go_wp2_with fail
  refine (HK.out _).mono ?_
  rintro e w' ⟨rfl, hcl, hg⟩
  have HCl : Hid (∃ mv, Climb w' NC S n I mv) := hcl
  have HG : Hid (w.grownBy w' (some NC)) := ⟨hg.os, hg.tape, hg.output, hg.size, hg.block⟩
  clear hcl hg
  obtain ⟨v, hv⟩ := HP.out
  rw [← hv]
  go_wp2
  go_ret
  exact ⟨rfl, HCl.out, HG.out⟩

set_option maxHeartbeats 400000 in
theorem of_other (NC S n C : Nat) (k : Nat) (I : Nat → ByteArray) (mv : Value) (id : ByteArray) (w : World) (hid : id.size ≤ maxLen) (hn : n ≤ 65536) (hI : ∀ j, j < n → (I j).size ≤ maxLen) (hC : Climb w NC S n I mv) (hc : w.cell? ⟨C, 0, Option.none⟩ = some (.string id)) (hk : k < n) (he : ¬ I k = id) :
    Calls Try.prog 10 #[.pointer (some ⟨NC, 0, Option.none⟩), .pointer (some ⟨C, 0, Option.none⟩), .int .i64 (k : Int)] w fun e w' => e = .returned (ptrOf S (lastIdx I id n)) ∧ (∃ mv, Climb w' NC S n I mv) ∧ w.grownBy w' (some NC) := by
  have c0 := hC.cell0
  have cs := sets_at hC.sets hk
  have heq : ((I k).toList == id.toList) = false := by rw [texts_eq]; simp [he]
  have h0 : (0 : Int) ≤ (k : Int) := by omega
  have h1 : (k : Int) < (n : Int) := by omega
  have HK : Hid (∀ q, Calls Try.prog 11 #[.pointer (some ⟨NC, 0, Option.none⟩), .string id] (w.drewN q) fun e w' => e = .returned (ptrOf S (lastIdx I id n)) ∧ (∃ mv, Climb w' NC S n I mv) ∧ (w.drewN q).grownBy w' (some NC)) := fun q => last_any hid hn hI (hC.drewN q)
  have HP : Hid (∃ v, v = ptrOf S (lastIdx I id n)) := ⟨_, rfl⟩
  clear hC hI
  go_enter Try.func10, Try.ntmps10
  go_wp2_with fail
  go_quiet (fail)
  go_wp2_with fail
  refine (HK.out _).mono ?_
  rintro e w' ⟨rfl, hcl, hg⟩
  have HCl : Hid (∃ mv, Climb w' NC S n I mv) := hcl
  have HG : Hid (w.grownBy w' (some NC)) := ⟨hg.os, hg.tape, hg.output, hg.size, hg.block⟩
  clear hcl hg
  obtain ⟨v, hv⟩ := HP.out
  rw [← hv]
  go_wp2
  go_ret
  exact ⟨rfl, HCl.out, HG.out⟩

theorem of_any {NC S n C : Nat} {h : Int} {I : Nat → ByteArray} {mv : Value} {id : ByteArray} {w : World} (hid : id.size ≤ maxLen) (hn : n ≤ 65536) (hI : ∀ j, j < n → (I j).size ≤ maxLen) (hC : Climb w NC S n I mv) (hc : w.cell? ⟨C, 0, Option.none⟩ = some (.string id)) :
    Calls Try.prog 10 #[.pointer (some ⟨NC, 0, Option.none⟩), .pointer (some ⟨C, 0, Option.none⟩), .int .i64 h] w fun e w' => e = .returned (ptrOf S (ofIdx I n id h)) ∧ (∃ mv, Climb w' NC S n I mv) ∧ w.grownBy w' (some NC) := by
  by_cases h0 : 0 ≤ h
  · obtain ⟨k, rfl⟩ : ∃ k : Nat, h = k := ⟨h.toNat, by omega⟩
    by_cases hk : k < n
    · by_cases he : I k = id
      · have : ofIdx I n id (k : Int) = some k := by unfold ofIdx; rw [if_pos ⟨h0, by omega, by simpa using he⟩]; simp
        rw [this]
        refine (of_hit NC S n C k I mv id w hn hC hc hk he).mono fun e w' ⟨h1, q, h2⟩ => ?_
        subst h2
        exact ⟨h1, ⟨_, hC.drewN q⟩, ⟨rfl, rfl, rfl, Nat.le_refl _, fun _ _ _ => rfl⟩⟩
      · have : ofIdx I n id (k : Int) = lastIdx I id n := by unfold ofIdx; rw [if_neg (fun c => he (by simpa using c.2.2))]
        rw [this]
        exact of_other NC S n C k I mv id w hid hn hI hC hc hk he
    · have : ofIdx I n id (k : Int) = lastIdx I id n := by unfold ofIdx; rw [if_neg (fun c => hk (by omega))]
      rw [this]
      exact of_high NC S n C (k : Int) I mv id w hid hn hI hC hc h0 (by omega)
  · have : ofIdx I n id h = lastIdx I id n := by unfold ofIdx; rw [if_neg (fun c => h0 c.1)]
    rw [this]
    exact of_low NC S n C h I mv id w hid hn hI hC hc (by omega)

theorem zlast_any {NC S n C : Nat} {h : Int} {I : Nat → ByteArray} {mv : Value} {id : ByteArray} {w : World} (hid : id.size ≤ maxLen) (hn : n ≤ 65536) (hI : ∀ j, j < n → (I j).size ≤ maxLen) (hC : Climb w NC S n I mv) (hc : w.cell? ⟨C, 0, Option.none⟩ = some (.string id)) :
    Calls Try.prog 7 #[.pointer (some ⟨NC, 0, Option.none⟩), .pointer (some ⟨C, 0, Option.none⟩), .int .i64 h] w fun e w' => e = .returned (ptrOf S (ofIdx I n id h)) ∧ (∃ mv, Climb w' NC S n I mv) ∧ w.grownBy w' (some NC) := by
  have HK : Hid (Calls Try.prog 10 #[.pointer (some ⟨NC, 0, Option.none⟩), .pointer (some ⟨C, 0, Option.none⟩), .int .i64 h] w fun e w' => e = .returned (ptrOf S (ofIdx I n id h)) ∧ (∃ mv, Climb w' NC S n I mv) ∧ w.grownBy w' (some NC)) := of_any hid hn hI hC hc
  have HP : Hid (∃ v, v = ptrOf S (ofIdx I n id h)) := ⟨_, rfl⟩
  clear hI hC hc
  go_enter Try.func7, Try.ntmps7
  go_wp2_with fail
  refine (HK.out).mono ?_
  rintro e w' ⟨rfl, hcl, hg⟩
  have HCl : Hid (∃ mv, Climb w' NC S n I mv) := hcl
  have HG : Hid (w.grownBy w' (some NC)) := hg
  clear hcl hg
  obtain ⟨v, hv⟩ := HP.out
  rw [← hv]
  go_wp2
  go_ret
  exact ⟨rfl, HCl.out, HG.out⟩

theorem setAt_any {NC S n k : Nat} {I : Nat → ByteArray} {mv : Value} {w : World} (hn : n ≤ 65536) (hC : Climb w NC S n I mv) (hk : k < n) :
    Calls Try.prog 8 #[.pointer (some ⟨NC, 0, Option.none⟩), .int .i64 (k : Int)] w fun e w' => e = .returned (.pointer (some ⟨S, k * 37, Option.none⟩)) ∧ w = w' := by
  have c0 := hC.cell0
  have h1 : (k : Int) < (n : Int) := by omega
  clear hC
  go_enter Try.func8, Try.ntmps8
  go_wp2
  go_ret
  exact ⟨rfl, rfl⟩
end Go.Proofs.Qxb6626086a
