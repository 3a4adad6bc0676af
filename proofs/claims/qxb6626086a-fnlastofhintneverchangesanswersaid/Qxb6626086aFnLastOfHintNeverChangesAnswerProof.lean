/-
  THE PROOF OF 'Rows.FnLastOfHintNeverChangesAnswerSaid': the row's step, typed after the frame that the skeleton tool writes for slices of integers.
-/
import Derived.Test.Qxb6626086aHint
import Derived.ProofKit
import Derived.OpenShut
import Derived.ShutString
import Derived.ChangeOld
import Derived.Below
import Derived.SliceStrings
namespace Go.Proofs.Qxb6626086a.fnLastOfHintNeverChangesAnswer
open Go.ChangeShapes Go.WideShapes Go.ChangeAt Go.RowKit
open Go.ChangeMaps (open_string shut_string)
set_option linter.unusedVariables false

theorem own : ownKnob Try.prog.godebug = Option.none := by kernel_rfl
theorem laidOut : laidOutB Try.prog = true := by kernel_rfl

/-- WHAT THE WALK IS TOLD OF A SLICE OF STRINGS THAT CAME IN. -/
def IsStrs (w : World) (a : Option Addr) (len cap : Nat) (ss : List ByteArray) : Prop :=
  (a = Option.none ∧ len = 0 ∧ cap = 0 ∧ ss = []) ∨
  ∃ x, a = some x ∧ len ≤ cap ∧ cap ≤ maxLen ∧ ss.length = cap ∧ (∀ i, i < ss.length → w.cell? (x.add i) = some (.string (ss.getD i ByteArray.empty))) ∧ ∀ s ∈ ss, s.size ≤ maxLen

theorem strs_src {w : World} {a : Option Addr} {len cap : Nat} {ss : List ByteArray} (h : IsStrs w a len cap ss) :
    (ss.take len).length = len ∧ len ≤ maxLen ∧ SrcS w a (ss.take len) ∧ (∀ s ∈ ss.take len, s.size ≤ maxLen) ∧ (a.isSome = false → a = Option.none ∧ len = 0 ∧ cap = 0) := by
  rcases h with ⟨rfl, rfl, rfl, rfl⟩ | ⟨x, rfl, hl, hm, hz, hc, hw⟩
  · exact ⟨rfl, Nat.zero_le _, ⟨fun _ => rfl, fun ad j u h _ => by cases h⟩, fun s hs => by simp at hs, fun _ => ⟨rfl, rfl, rfl⟩⟩
  · refine ⟨by simp; omega, by omega, ⟨(fun h => by cases h), fun ad j u h hj => ?_⟩, fun s hs => hw s (List.mem_of_mem_take hs), fun h => by cases h⟩
    cases h
    have hj' : j < (strs (ss.take len)).length := (List.getElem?_eq_some_iff.1 hj).1
    rw [strs_len] at hj'
    simp at hj'
    rw [hc j (by omega)]
    have h1 : j < ss.length := by omega
    have h2 : j < len := by omega
    have : (strs (ss.take len))[j]? = some (.string (ss.getD j ByteArray.empty)) := by
      simp [strs, h2, h1]
    rw [this] at hj
    exact hj

set_option maxRecDepth 100000 in
set_option maxHeartbeats 1000000 in
theorem walk (a0 : Option Addr) (len0 cap0 : Nat) (z0 : List ByteArray) (a1 : ByteArray) (a2 a3 : Int) (w : World) (w0 : IsStrs w a0 len0 cap0 z0) (w1 : a1.size ≤ maxLen) :
    Calls Try.prog 3 #[.slice a0 len0 cap0, .string a1, .int .i64 a2, .int .i64 a3] w fun e w' => e = .returned (.bool true) ∧ Below w.heap.size w w' := by
  obtain ⟨l0, m0, s0, z0s, n0⟩ := strs_src w0
  by_cases b0 : len0 ≤ 65536
  · by_cases b1 : a1.size ≤ 1048576
    · exact hint_main a0 len0 cap0 _ a1 a2 a3 w l0 s0 z0s w1 m0 b0 b1 n0
    · have HG := guard5_any (c := cap0) (id := a1) (i := a2) (j := a3) l0 m0 s0
      have HG' : Hid (Calls Try.prog 5 #[.slice a0 len0 cap0, .string a1, .int .i64 a2, .int .i64 a3] w fun e w' => IsBool e ∧ w = w') := HG
      clear w0 l0 s0 z0s n0 HG
      go_enter Try.func3, Try.ntmps3
      go_wp2_with fail
      refine (HG'.out).mono ?_
      rintro e w' ⟨⟨gv, rfl⟩, rfl⟩
      cases gv with
      | false =>
        go_wp2
        go_ret
        exact ⟨rfl, Below.refl _ _⟩
      | true =>
        go_wp2
        go_ret
        exact ⟨rfl, Below.refl _ _⟩
  · have HG := guard5_any (c := cap0) (id := a1) (i := a2) (j := a3) l0 m0 s0
    have HG' : Hid (Calls Try.prog 5 #[.slice a0 len0 cap0, .string a1, .int .i64 a2, .int .i64 a3] w fun e w' => IsBool e ∧ w = w') := HG
    clear w0 l0 s0 z0s n0 HG
    go_enter Try.func3, Try.ntmps3
    go_wp2_with fail
    refine (HG'.out).mono ?_
    rintro e w' ⟨⟨gv, rfl⟩, rfl⟩
    cases gv with
    | false =>
      go_wp2
      go_ret
      exact ⟨rfl, Below.refl _ _⟩
    | true =>
      go_wp2
      go_ret
      exact ⟨rfl, Below.refl _ _⟩

/-! ### THE ROW's STEP -/
set_option maxRecDepth 100000 in
theorem lifted (os : Os) (started : os.Started) (H : Type) (enc : TypeId × Value → H) :
    ReturnsInHanded {} Try.checked os 3 .any (Rows.fnLastOfHintNeverChangesAnswerSpec.pre6 enc Try.prog Try.f3 Rows.fnLastOfHintNeverChangesAnswerRow.domain false) (Rows.fnLastOfHintNeverChangesAnswerSpec.post enc Try.prog Try.f3 false true false false) := by
  refine returnsInHanded_of_change (C := Try.checked) own started (by kernel_rfl) Try.func3
    (ChangeSpec.witness6 (enc := enc) (C := Try.checked) false ⟨#[], #[.slice Option.none 0 0, .string ByteArray.empty, .int .i64 0, .int .i64 0], []⟩ 8 (by kernel_rfl) (by kernel_rfl) (by kernel_rfl) (by kernel_rfl)) ?_
  intro W base args ds gs before hval0 hW hcnd _
  have hval : ∀ (j : Nat) t v, Try.f3.params[j]? = some t → args[j]? = some v → Value.okWide Try.prog W .any base t v := hval0
  have hW' := hW
  obtain ⟨p, q, hA0, hV, rfl, hfz, hnd⟩ := hW
  have hA : DataW.TrodAll enc Try.prog W 0 (fun _ => true) true Try.f3.params.toList args.toList ds p := hA0
  rw [Try.params3] at hA hval
  obtain ⟨v0, vs0, d0, ds0, p0, q0, hargs, rfl, rfl, h0, r0⟩ := trodAll_cons hA
  obtain ⟨v1, vs1, d1, ds1, p1, q1, rfl, rfl, rfl, h1, r1⟩ := trodAll_cons r0
  obtain ⟨v2, vs2, d2, ds2, p2, q2, rfl, rfl, rfl, h2, r2⟩ := trodAll_cons r1
  obtain ⟨v3, vs3, d3, ds3, p3, q3, rfl, rfl, rfl, h3, r3⟩ := trodAll_cons r2
  obtain ⟨rfl, rfl, rfl⟩ := trodAll_nil r3
  obtain rfl : args = #[v0, v1, v2, v3] := by cases args; simp_all
  obtain ⟨rfl, rfl⟩ := trodVars_none hV
  obtain ⟨a0, len0, cap0, rfl⟩ := okWide_slice Try.underlying22 (hval 0 22 v0 rfl rfl)
  have k0 := h0
  have lt0 : ∀ x ∈ p0, x.block < W.heap.size := by obtain ⟨m, hm⟩ := k0; exact DataW.trod_lt m _ _ _ hm
  obtain ⟨z0, w0⟩ : ∃ ss, IsStrs W a0 len0 cap0 ss := by
    obtain ⟨fuel, hf⟩ := h0
    rcases open_strings Try.underlying22 Try.underlying9 (by kernel_rfl) hf with ⟨hcs, _⟩ | ⟨x, l, c, ss, hcs, _, hl, hm, hz, _, hcell, hws⟩
    · simp [Value.cells] at hcs
      obtain ⟨rfl, rfl, rfl⟩ := hcs
      exact ⟨[], .inl ⟨rfl, rfl, rfl, rfl⟩⟩
    · simp [Value.cells] at hcs
      obtain ⟨rfl, rfl, rfl⟩ := hcs
      exact ⟨ss, .inr ⟨_, rfl, hl, hm, by simpa using hz, hcell, hws⟩⟩
  obtain ⟨a1, rfl, rfl, rfl, w1⟩ := open_string Try.underlying9 (hval 1 9 v1 rfl rfl) h1
  obtain ⟨a2, rfl, rfl, rfl, w2⟩ := open_int Try.underlying3 (hval 2 3 v2 rfl rfl) h2
  obtain ⟨a3, rfl, rfl, rfl, w3⟩ := open_int Try.underlying3 (hval 3 3 v3 rfl rfl) h3
  clear hA0 hval0
  refine (walk a0 len0 cap0 z0 a1 a2 a3 W w0 w1).mono fun e W' ⟨he, bel⟩ => ?_
  subst he
  exact ⟨_, rfl, _, _, _, [], _, [], hW', trodAll_mk1 (shut_bool Try.underlying4 _), (trodAll_cons_mk (Below.trod laidOut (by kernel_rfl) (of_decide_eq_true (by kernel_rfl)) k0 bel lt0) (trodAll_cons_mk (shut_string Try.underlying9 w1) (trodAll_cons_mk (shut_int Try.underlying3 w2) (trodAll_cons_mk (shut_int Try.underlying3 w3) trodAll_mk0)))), rfl, bel.frame _, fun h => by cases h⟩

theorem over : Rows.fnLastOfHintNeverChangesAnswerRow.holds Try.pinned (OpenSpec.ofChange Rows.fnLastOfHintNeverChangesAnswerSpec) :=
  OpenClaim.holds_of_wide 3 Try.f3 rfl rfl rfl rfl rfl rfl rfl ⟨rfl, rfl, rfl, rfl, rfl⟩ rfl rfl rfl rfl rfl (by kernel_rfl) Try.func3 (by kernel_rfl)
    (of_decide_eq_true (by kernel_rfl)) (by unfold Func.isWrapper; first | (rw [if_pos (by decide +kernel)]; kernel_rfl) | (rw [if_neg (by decide +kernel)]; exact ⟨rfl, rfl⟩))
    (fun os started H enc _ => lifted os started H enc)

/-- THE STATEMENT -/
theorem proved : Rows.FnLastOfHintNeverChangesAnswerSaid := over
#print axioms proved
end Go.Proofs.Qxb6626086a.fnLastOfHintNeverChangesAnswer
