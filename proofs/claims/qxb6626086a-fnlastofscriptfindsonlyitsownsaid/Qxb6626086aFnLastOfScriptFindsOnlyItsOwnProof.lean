/-
  THE PROOF OF 'Rows.FnLastOfScriptFindsOnlyItsOwnSaid': the row's step, typed after the frame that the skeleton tool writes for slices of integers.
-/
import Derived.Test.Qxb6626086aScript
import Derived.ProofKit
import Derived.OpenShut
import Derived.ShutString
import Derived.ChangeOld
import Derived.Below
import Derived.SliceStrings
import Derived.Deep.SlicePairs
namespace Go.Proofs.Qxb6626086a.fnLastOfScriptFindsOnlyItsOwn
open Go.ChangeShapes Go.WideShapes Go.ChangeAt Go.RowKit
open Go.ChangeMaps (open_string shut_string)
set_option linter.unusedVariables false

theorem own : ownKnob Try.prog.godebug = Option.none := by kernel_rfl
theorem laidOut : laidOutB Try.prog = true := by kernel_rfl

/-- WHAT THE WALK IS TOLD OF A SLICE OF STRINGS THAT CAME IN. -/
def IsStrs (w : World) (a : Option Addr) (len cap : Nat) (ss : List ByteArray) : Prop :=
  (a = Option.none ∧ len = 0 ∧ cap = 0 ∧ ss = []) ∨
  ∃ x, a = some x ∧ len ≤ cap ∧ cap ≤ maxLen ∧ ss.length = cap ∧ (∀ i, i < ss.length → w.cell? (x.add i) = some (.string (ss.getD i ByteArray.empty))) ∧ ∀ s ∈ ss, s.size ≤ maxLen

theorem strs_src {w : World} {a : Option Addr} {len cap : Nat} {ss : List ByteArray} (h : IsStrs w a len cap ss) :
    (ss.take len).length = len ∧ len ≤ maxLen ∧ SrcS w a (ss.take len) ∧ (∀ s ∈ ss.take len, s.size ≤ maxLen) ∧ (a.isSome = false → a = Option.none ∧ len = 0 ∧ cap = 0) := by
  rcases h with ⟨rfl, rfl, rfl, rfl⟩ | ⟨x, rfl, hl, hm, hz, hc, hw⟩
  · exact ⟨rfl, Nat.zero_le _, ⟨fun _ => rfl, fun ad j u h _ => by cases h⟩, fun s hs => by simp at hs, fun _ => ⟨rfl, rfl, rfl⟩⟩
  · refine ⟨by simp; omega, by omega, ⟨(fun h => by cases h), fun ad j u h hj => ?_⟩, fun s hs => hw s (List.mem_of_mem_take hs), fun h => by cases h⟩
    cases h
    have hj' : j < (strs (ss.take len)).length := (List.getElem?_eq_some_iff.1 hj).1
    rw [strs_len] at hj'
    simp at hj'
    rw [hc j (by omega)]
    have h1 : j < ss.length := by omega
    have h2 : j < len := by omega
    have : (strs (ss.take len))[j]? = some (.string (ss.getD j ByteArray.empty)) := by
      simp [strs, h2, h1]
    rw [this] at hj
    exact hj

/-- WHAT THE WALK IS TOLD OF A SCRIPT THAT CAME IN. -/
structure IsScript (w : World) (a : Option Addr) (len : Nat) (Q : Nat → ByteArray) (X : Nat → Int) : Prop where
  len_le : len ≤ maxLen
  reads : ReadsQ w a len Q X
  sizes : ∀ q, q < len → (Q q).size ≤ maxLen

theorem addr_spot {w : World} {b off : Nat} {spot : Option Nat} {v : Value} (h : w.cell? ((⟨b, off, spot⟩ : Addr).add (0 * 2)) = some v) : spot = Option.none := by
  simpa [Addr.add] using World.cell?_spot h

def strOf : Value → ByteArray | .string s => s | _ => ByteArray.empty
def numOf : Value → Int | .int _ x => x | _ => 0

set_option maxRecDepth 100000 in
set_option maxHeartbeats 1000000 in
theorem walk (a0 : Option Addr) (len0 cap0 : Nat) (z0 : List ByteArray) (a1 : Option Addr) (len1 cap1 : Nat) (Q : Nat → ByteArray) (X : Nat → Int) (w : World) (w0 : IsStrs w a0 len0 cap0 z0) (w1 : IsScript w a1 len1 Q X) :
    Calls Try.prog 4 #[.slice a0 len0 cap0, .slice a1 len1 cap1] w fun e w' => e = .returned (.bool true) ∧ Below w.heap.size w w' := by
  obtain ⟨l0, m0, s0, z0s, n0⟩ := strs_src w0
  obtain ⟨m1, rq, sq⟩ := w1
  by_cases b0 : len0 ≤ 65536
  · by_cases b1 : len1 ≤ 4096
    · exact script_main a0 len0 cap0 _ a1 len1 cap1 Q X w l0 s0 z0s m0 m1 rq sq b0 b1 n0
    · have HG' : Hid (Calls Try.prog 9 #[.slice a0 len0 cap0, .slice a1 len1 cap1] w fun e w' => IsBool e ∧ w = w') := guard9_any _ _ _ _ _ _ _ Q X _ m0 m1 (s0.reads l0) rq
      clear w0 l0 s0 z0s n0 rq sq
      go_enter Try.func4, Try.ntmps4
      go_wp2_with fail
      refine (HG'.out).mono ?_
      rintro e w' ⟨⟨gv, rfl⟩, rfl⟩
      cases gv with
      | false =>
        go_wp2
        go_ret
        exact ⟨rfl, Below.refl _ _⟩
      | true =>
        go_wp2
        go_ret
        exact ⟨rfl, Below.refl _ _⟩
  · have HG' : Hid (Calls Try.prog 9 #[.slice a0 len0 cap0, .slice a1 len1 cap1] w fun e w' => IsBool e ∧ w = w') := guard9_any _ _ _ _ _ _ _ Q X _ m0 m1 (s0.reads l0) rq
    clear w0 l0 s0 z0s n0 rq sq
    go_enter Try.func4, Try.ntmps4
    go_wp2_with fail
    refine (HG'.out).mono ?_
    rintro e w' ⟨⟨gv, rfl⟩, rfl⟩
    cases gv with
    | false =>
      go_wp2
      go_ret
      exact ⟨rfl, Below.refl _ _⟩
    | true =>
      go_wp2
      go_ret
      exact ⟨rfl, Below.refl _ _⟩

/-! ### THE ROW's STEP -/
set_option maxRecDepth 100000 in
theorem lifted (os : Os) (started : os.Started) (H : Type) (enc : TypeId × Value → H) :
    ReturnsInHanded {} Try.checked os 4 .any (Rows.fnLastOfScriptFindsOnlyItsOwnSpec.pre6 enc Try.prog Try.f4 Rows.fnLastOfScriptFindsOnlyItsOwnRow.domain false) (Rows.fnLastOfScriptFindsOnlyItsOwnSpec.post enc Try.prog Try.f4 false true false false) := by
  refine returnsInHanded_of_change (C := Try.checked) own started (by kernel_rfl) Try.func4
    (ChangeSpec.witness6 (enc := enc) (C := Try.checked) false ⟨#[], #[.slice Option.none 0 0, .slice Option.none 0 0], []⟩ 8 (by kernel_rfl) (by kernel_rfl) (by kernel_rfl) (by kernel_rfl)) ?_
  intro W base args ds gs before hval0 hW hcnd _
  have hval : ∀ (j : Nat) t v, Try.f4.params[j]? = some t → args[j]? = some v → Value.okWide Try.prog W .any base t v := hval0
  have hW' := hW
  obtain ⟨p, q, hA0, hV, rfl, hfz, hnd⟩ := hW
  have hA : DataW.TrodAll enc Try.prog W 0 (fun _ => true) true Try.f4.params.toList args.toList ds p := hA0
  rw [Try.params4] at hA hval
  obtain ⟨v0, vs0, d0, ds0, p0, q0, hargs, rfl, rfl, h0, r0⟩ := trodAll_cons hA
  obtain ⟨v1, vs1, d1, ds1, p1, q1, rfl, rfl, rfl, h1, r1⟩ := trodAll_cons r0
  obtain ⟨rfl, rfl, rfl⟩ := trodAll_nil r1
  obtain rfl : args = #[v0, v1] := by cases args; simp_all
  obtain ⟨rfl, rfl⟩ := trodVars_none hV
  obtain ⟨a0, len0, cap0, rfl⟩ := okWide_slice Try.underlying22 (hval 0 22 v0 rfl rfl)
  have k0 := h0
  have lt0 : ∀ x ∈ p0, x.block < W.heap.size := by obtain ⟨m, hm⟩ := k0; exact DataW.trod_lt m _ _ _ hm
  obtain ⟨z0, w0⟩ : ∃ ss, IsStrs W a0 len0 cap0 ss := by
    obtain ⟨fuel, hf⟩ := h0
    rcases open_strings Try.underlying22 Try.underlying9 (by kernel_rfl) hf with ⟨hcs, _⟩ | ⟨x, l, c, ss, hcs, _, hl, hm, hz, _, hcell, hws⟩
    · simp [Value.cells] at hcs
      obtain ⟨rfl, rfl, rfl⟩ := hcs
      exact ⟨[], .inl ⟨rfl, rfl, rfl, rfl⟩⟩
    · simp [Value.cells] at hcs
      obtain ⟨rfl, rfl, rfl⟩ := hcs
      exact ⟨ss, .inr ⟨_, rfl, hl, hm, by simpa using hz, hcell, hws⟩⟩
  obtain ⟨a1, len1, cap1, rfl⟩ := okWide_slice Try.underlying34 (hval 1 34 v1 rfl rfl)
  have k1 := h1
  have lt1 : ∀ x ∈ p1, x.block < W.heap.size := by obtain ⟨m, hm⟩ := k1; exact DataW.trod_lt m _ _ _ hm
  obtain ⟨Q, X, w1⟩ : ∃ Q X, IsScript W a1 len1 Q X := by
    obtain ⟨fuel, hf⟩ := h1
    rcases Deep.open_slice_pairs Try.underlying34 Try.underlying37 (by kernel_rfl) rfl rfl (by kernel_rfl) (by kernel_rfl) hf with ⟨hcs, _⟩ | ⟨x, l, c, mm, nn, V0, V1, D0, D1, P0, P1, hcs, _, hl, hm, hmm, _, hall⟩
    · simp [Value.cells] at hcs
      obtain ⟨rfl, rfl, rfl⟩ := hcs
      exact ⟨fun _ => ByteArray.empty, fun _ => 0, ⟨Nat.zero_le _, fun q hq => absurd hq (Nat.not_lt_zero q), fun q hq => absurd hq (Nat.not_lt_zero q)⟩⟩
    · simp [Value.cells] at hcs
      obtain ⟨rfl, rfl, rfl⟩ := hcs
      have hmc : mm = cap1 := by simpa using hmm
      have hq : ∀ i, i < len1 → ∃ s y, V0 i = .string s ∧ V1 i = .int .i64 y ∧ s.size ≤ maxLen := by
        intro i hi
        obtain ⟨_, _, t0, t1⟩ := hall i (by omega)
        obtain ⟨s, e0, _, hs⟩ := DataW.trod_string Try.underlying9 t0
        obtain ⟨y, e1, _, _⟩ := DataW.trod_int Try.underlying3 t1
        exact ⟨s, y, by simpa using e0, by simpa using e1, hs⟩
      refine ⟨fun i => strOf (V0 i), fun i => numOf (V1 i), ⟨by omega, fun i hi => ?_, fun i hi => ?_⟩⟩
      · obtain ⟨c0, c1, _, _⟩ := hall i (by omega)
        obtain ⟨s, y, e0, e1, _⟩ := hq i hi
        rw [e0] at c0
        rw [e1] at c1
        obtain ⟨b, off, spot⟩ := x
        have hs : spot = Option.none := addr_spot (hall 0 (by omega)).1
        subst hs
        rw [Addr.add_mid] at c0 c1
        refine ⟨b, off, rfl, ?_, ?_⟩
        · show W.cell? ⟨b, off + i * 2, Option.none⟩ = some (.string (strOf (V0 i)))
          rw [c0, e0]; rfl
        · show W.cell? ⟨b, off + i * 2 + 1, Option.none⟩ = some (.int .i64 (numOf (V1 i)))
          rw [show off + i * 2 + 1 = off + (i * 2 + 1) by omega, c1, e1]; rfl
      · obtain ⟨s, y, e0, _, hs⟩ := hq i hi
        show (strOf (V0 i)).size ≤ maxLen
        rw [e0]; exact hs
  clear hA0 hval0
  refine (walk a0 len0 cap0 z0 a1 len1 cap1 Q X W w0 w1).mono fun e W' ⟨he, bel⟩ => ?_
  subst he
  exact ⟨_, rfl, _, _, _, [], _, [], hW', trodAll_mk1 (shut_bool Try.underlying4 _), (trodAll_cons_mk (Below.trod laidOut (by kernel_rfl) (of_decide_eq_true (by kernel_rfl)) k0 bel lt0) (trodAll_cons_mk (Below.trod laidOut (by kernel_rfl) (of_decide_eq_true (by kernel_rfl)) k1 bel lt1) trodAll_mk0)), rfl, bel.frame _, fun h => by cases h⟩

theorem over : Rows.fnLastOfScriptFindsOnlyItsOwnRow.holds Try.pinned (OpenSpec.ofChange Rows.fnLastOfScriptFindsOnlyItsOwnSpec) :=
  OpenClaim.holds_of_wide 4 Try.f4 rfl rfl rfl rfl rfl rfl rfl ⟨rfl, rfl, rfl, rfl, rfl⟩ rfl rfl rfl rfl rfl (by kernel_rfl) Try.func4 (by kernel_rfl)
    (of_decide_eq_true (by kernel_rfl)) (by unfold Func.isWrapper; first | (rw [if_pos (by decide +kernel)]; kernel_rfl) | (rw [if_neg (by decide +kernel)]; exact ⟨rfl, rfl⟩))
    (fun os started H enc _ => lifted os started H enc)

/-- THE STATEMENT -/
theorem proved : Rows.FnLastOfScriptFindsOnlyItsOwnSaid := over
#print axioms proved
end Go.Proofs.Qxb6626086a.fnLastOfScriptFindsOnlyItsOwn
