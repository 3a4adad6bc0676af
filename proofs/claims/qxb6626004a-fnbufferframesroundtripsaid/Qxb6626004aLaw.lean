/-
  THE PLAIN LAW of the encodings, and the joints that both laws of the seat take.
-/
import Derived.Test.Qxb6626004aSmall
namespace Go.Proofs.Qxb6626004a
open Go.RowKit
set_option linter.unusedVariables false

theorem be4_inj {u v : Int} (hu : 0 ≤ u) (hu' : u < 4294967296) (hv : 0 ≤ v) (hv' : v < 4294967296) (h : be4 u = be4 v) : u = v := by
  simp only [be4, List.cons.injEq, and_true] at h
  omega

theorem encOf_len {a : Option Addr} {zs : List Int} (h : a = none → zs = []) : (encOf a zs).length = 4 + zs.length := by
  unfold encOf
  cases a with
  | none => rw [h rfl]; rfl
  | some x => simp [be4]; omega

theorem encOf_inj {a b : Option Addr} {xs ys : List Int} (ha : a = none → xs = []) (hb : b = none → ys = []) (lx : xs.length ≤ 1048576) (ly : ys.length ≤ 1048576) :
    encOf a xs = encOf b ys ↔ (a.isNone = b.isNone ∧ xs = ys) := by
  constructor
  · intro h
    cases a with
    | none =>
      cases b with
      | none => exact ⟨rfl, by rw [ha rfl, hb rfl]⟩
      | some y =>
        exfalso
        simp [encOf, be4] at h
        omega
    | some x =>
      cases b with
      | none =>
        exfalso
        simp [encOf, be4] at h
        omega
      | some y =>
        refine ⟨rfl, ?_⟩
        have h' : be4 (xs.length : Int) ++ xs = be4 (ys.length : Int) ++ ys := by simpa [encOf] using h
        have := List.append_inj h' rfl
        exact this.2
  · rintro ⟨h1, rfl⟩
    unfold encOf
    rw [h1]

theorem law_plain {a b : Option Addr} {xs ys : List Int} (ha : a = none → xs = []) (hb : b = none → ys = []) (lx : xs.length ≤ 1048576) (ly : ys.length ≤ 1048576) :
    decide (encOf a xs = encOf b ys) = ((a.isNone == b.isNone) && decide (xs = ys)) := by
  rw [Bool.eq_iff_iff]
  simp only [decide_eq_true_eq, Bool.and_eq_true, beq_iff_eq]
  exact encOf_inj ha hb lx ly

theorem clone_any {a : Option Addr} {n c : Nat} {zs : List Int} {w : World} (hz : zs.length = n) (hn : n ≤ 1048576) (hs : Src w a zs) :
    Calls Try.prog 7 #[.slice a n c] w fun e w' => ∃ a' c', e = .returned (.slice a' n c') ∧ w'.ownsRow w.heap.size 5 1 (.slice a' n c') n (u8s zs) ∧ Below w.heap.size w w' := by
  cases a with
  | none =>
    have : zs = [] := hs.1 rfl
    subst this
    simp at hz
    subst hz
    refine (clone_nil 0 c w).mono fun e w' ⟨h1, h2⟩ => ?_
    subst h2
    exact ⟨none, 0, h1, World.ownsRow_nil _ _ _ _, Below.refl _ _⟩
  | some x => exact (clone_some x n c zs w hz hn hs).mono fun e w' ⟨h1, h2, h3⟩ => ⟨_, _, h1, h2, h3⟩

theorem own_below {w w' : World} (h : Below w.heap.size w w') {B e s n : Nat} {v : Value} {xs : List Value} (ho : w.ownsRow B e s v n xs) : w'.ownsRow B e s v n xs := by
  refine ⟨ho.1, ?_⟩
  rcases ho.2 with h1 | ⟨g, cap, cur, h1, h2, h3, h4⟩
  · exact .inl h1
  · exact .inr ⟨g, cap, cur, h1, h2, by rw [h.block g (lt_of_block h3)]; exact h3, h4⟩

theorem Enc.later {B E : Nat} {w w' : World} {bv : Value} {xs : List Int} (h : Enc B E w bv xs) (hb : Below w.heap.size w w') : Enc B E w' bv xs :=
  ⟨h.eB, by rw [hb.block E h.lt]; exact h.blk, own_below hb h.own⟩

/-- The buffer's value: never nil once something has been laid. -/
theorem Enc.at {B E : Nat} {w : World} {bv : Value} {xs : List Int} {N : Nat} (h : Enc B E w bv xs) (hN : xs.length = N) (h0 : 0 < N) : ∃ g c, bv = .slice (some ⟨g, 0, none⟩) N c ∧ N ≤ c ∧ c ≤ maxLen := by
  rcases h.own.2 with ⟨_, e⟩ | ⟨g, c, cur, e, _, _, h1, h2, _⟩
  · omega
  · exact ⟨g, c, by rw [e, hN], by omega, h2⟩

/-- The first part of what a slice holds. -/
theorem Sees.head {w : World} {a : Option Addr} {xs ys : List Int} (h : Sees w a (xs ++ ys)) : Sees w a xs := by
  rcases h with h | ⟨b, off, e, hc⟩
  · exact .inl (List.append_eq_nil_iff.1 h).1
  · refine .inr ⟨b, off, e, fun j hj => ?_⟩
    have := hc j (by simp; omega)
    rw [this]
    rw [List.getD_eq_getElem?_getD, List.getD_eq_getElem?_getD, List.getElem?_append_left hj]

/-- .. and what lies behind it. -/
theorem Sees.tail {w : World} {b off n : Nat} {xs ys : List Int} (h : Sees w (some ⟨b, off, none⟩) (xs ++ ys)) (hn : xs.length = n) : Sees w (some ⟨b, off + n, none⟩) ys := by
  subst hn
  rcases h with h | ⟨b', off', e, hc⟩
  · exact .inl (List.append_eq_nil_iff.1 h).2
  · simp only [Option.some.injEq, Addr.mk.injEq, and_true] at e
    obtain ⟨rfl, rfl⟩ := e
    refine .inr ⟨b, off + xs.length, rfl, fun j hj => ?_⟩
    have := hc (xs.length + j) (by simp; omega)
    rw [show off + xs.length + j = off + (xs.length + j) by omega, this, List.getD_eq_getElem?_getD, List.getD_eq_getElem?_getD, List.getElem?_append_right (by omega), Nat.add_sub_cancel_left]

theorem Enc.sees {B E : Nat} {w : World} {a : Option Addr} {c N : Nat} {xs : List Int} (h : Enc B E w (.slice a N c) xs) (hN : xs.length = N) : Sees w a xs := by
  have := h.own
  rw [hN] at this
  exact own_sees this

theorem Sees.drewN {w : World} {a : Option Addr} {xs : List Int} (h : Sees w a xs) (q : Nat) : Sees (w.drewN q) a xs := h
end Go.Proofs.Qxb6626004a
