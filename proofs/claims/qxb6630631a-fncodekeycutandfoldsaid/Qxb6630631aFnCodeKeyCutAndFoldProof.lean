/-
  THE PROOF OF 'Rows.FnCodeKeyCutAndFoldSaid'. The frame was written by program (proof-skeleton.mjs); the walk is typed by hand, and ends in 'Below' where the frame had 'Grown' ('[]byte(s)' lays a block that bears a mark).
-/
import Derived.Test.Qxb6630631aSame
import Derived.Deep.RegionWith
import Derived.Deep.DeepCutAuto
import Derived.WalkKit
import Derived.ProofKit
import Derived.OpenShut
import Derived.ShutString
namespace Go.Proofs.Qxb6630631a.fnCodeKeyCutAndFold
open Go.ChangeShapes Go.WideShapes Go.ChangeAt Go.RowKit Plain
open Go.ChangeMaps (open_string shut_string)
set_option linter.unusedVariables false      -- a walk need not use every 'w<i>' (that an integer argument fits its kind)

theorem own : ownKnob Try.prog.godebug = none := by kernel_rfl

/-! ### STEP 1: THE WALK: the Go text returns true, and turns nothing that was there. -/
theorem texts_eq (a b : ByteArray) : (a.toList == b.toList) = decide (a = b) := by
  rw [ByteArray.toList_eq, ByteArray.toList_eq]
  by_cases h : a = b
  · subst h; simp
  · simp only [h, decide_false]
    rw [beq_eq_false_iff_ne]
    intro hh
    exact h (bytes_inj hh)

theorem extract_both (a : ByteArray) {k : Nat} (h : k ≤ a.size) : a.extract 0 k ++ a.extract k a.size = a := by
  apply ByteArray.ext
  rw [ByteArray.data_append, ByteArray.data_extract, ByteArray.data_extract]
  rw [Array.extract_append_extract]
  have e : min 0 k = 0 := by omega
  have e' : max k a.size = a.data.size := by show max k a.size = a.size; omega
  rw [e, e', Array.extract_size]

set_option maxHeartbeats 400000 in
theorem walk (a0 : ByteArray) (a1 : Int) (w0 : a0.size ≤ maxLen) (w1 : (Lit.int .i64 a1).wf = true) (w : World) :
    Calls Try.prog 3 #[.string a0, .int .i64 a1] w fun e w' => e = .returned (.bool true) ∧ Below w.heap.size w w' := by
  by_cases h : a0.size ≤ 1048576
  · have hd : decide (a0.size ≤ 1048576) = true := by simp [h]
    by_cases hn : a1 < 0
    · go_enter Try.func3, Try.ntmps3
      go_wp2_with fail
      refine (guard5_any _ _ _ w0).mono ?_
      rintro e w' ⟨rfl, rfl⟩
      go_wp2
      go_ret
      exact ⟨rfl, Below.refl _ _⟩
    · by_cases hg : (a0.size : Int) < a1
      · go_enter Try.func3, Try.ntmps3
        go_wp2_with fail
        refine (guard5_any _ _ _ w0).mono ?_
        rintro e w' ⟨rfl, rfl⟩
        go_wp2
        go_ret
        exact ⟨rfl, Below.refl _ _⟩
      · obtain ⟨k, rfl⟩ : ∃ k : Nat, a1 = k := ⟨a1.toNat, by omega⟩
        have hk : k ≤ a0.size := by omega
        have hx1 : (a0.extract 0 k).size ≤ maxLen := by rw [ByteArray.size_extract]; omega
        have hx2 : (a0.extract k a0.size).size ≤ maxLen := by rw [ByteArray.size_extract]; omega
        have hy1 : (capsOf (a0.extract 0 k)).size ≤ 1048576 := by rw [capsOf_size, ByteArray.size_extract]; omega
        have hy2 : (capsOf (a0.extract k a0.size)).size ≤ 1048576 := by rw [capsOf_size, ByteArray.size_extract]; omega
        have hadd : ¬ (capsOf (a0.extract 0 k)).size + (capsOf (a0.extract k a0.size)).size > 9223372036854775807 := by omega
        go_enter Try.func3, Try.ntmps3
        go_wp2_with fail
        refine (guard5_any _ _ _ w0).mono ?_
        rintro e w' ⟨rfl, rfl⟩
        go_wp2_with fail
        refine (key_any _ w0 _).mono ?_
        rintro e v1 ⟨rfl, hb1⟩
        go_wp2_with fail
        go_region_with (first
          | (go_at_call_of 6 (Value.string (a0.extract 0 k)); refine (key_any _ hx1 _).mono ?_; rintro e v2 ⟨rfl, hb2⟩)
          | (go_at_call_of 6 (Value.string (a0.extract k a0.size)); refine (key_any _ hx2 _).mono ?_; rintro e v3 ⟨rfl, hb3⟩))
        clear hadd hy1 hy2
        have hj : (capsOf (a0.extract 0 k) ++ capsOf (a0.extract k a0.size)) = capsOf a0 := by
          rw [← capsOf_append, extract_both a0 hk]
        have hlen : ((capsOf a0).size : Int) ≤ a0.size := by rw [capsOf_size]; omega
        have hlen' : (a0.size : Int) ≤ (capsOf a0).size := by rw [capsOf_size]; omega
        have hb : Below w.heap.size w v3 := (hb1.drew.trans (hb2.mono hb1.size)).trans (hb3.mono (Nat.le_trans hb1.size hb2.size))
        have hne : (((capsOf a0).size : Int) != (a0.size : Int)) = false := by rw [capsOf_size]; simp
        clear hb1 hb2 hb3
        go_wp2
        clear hj
        go_loop [7] (fun i => ∃ k : Nat, k ≤ a0.size ∧ i = .int .i64 k) (fun i => a0.size - (intOf i).toNat)
        case atStart => exact ⟨0, Nat.zero_le _, rfl⟩
        case round =>
          obtain ⟨m, hm, rfl⟩ := hrel
          by_cases hlt : m < a0.size
          · have hlt' : m < (capsOf a0).size := by omega
            have hnl := up_not_low a0[m]
            rw [← capsOf_get a0 m hlt hlt'] at hnl
            have hsm := same_up a0[m]
            rw [← capsOf_get a0 m hlt hlt'] at hsm
            by_cases h1 : (97 : Int) ≤ ((capsOf a0)[m].toNat : Int)
            · have h2 : ¬ ((capsOf a0)[m].toNat : Int) ≤ 122 := by omega
              go_wp2_with (go_at_call 7; refine (same_any _ _ _).mono ?_; rintro e w' ⟨rfl, hw'⟩; obtain rfl := hw'.symm)
              go_round
              case rel => exact ⟨m + 1, by omega, by go_num⟩
              case measure => simp [intOf]; omega
            · go_wp2_with (go_at_call 7; refine (same_any _ _ _).mono ?_; rintro e w' ⟨rfl, hw'⟩; obtain rfl := hw'.symm)
              go_round
              case rel => exact ⟨m + 1, by omega, by go_num⟩
              case measure => simp [intOf]; omega
          · go_wp2
            go_ret
            exact ⟨rfl, hb⟩
  · have hd : decide (a0.size ≤ 1048576) = false := by simp [h]
    go_enter Try.func3, Try.ntmps3
    go_wp2_with fail
    refine (guard5_any _ _ _ w0).mono ?_
    rintro e w' ⟨rfl, rfl⟩
    go_wp2
    go_ret
    exact ⟨rfl, Below.refl _ _⟩

/-! ### THE ROW's STEP: WRITTEN OUT: LEAVE IT -/
set_option maxRecDepth 100000 in
theorem lifted (os : Os) (started : os.Started) (H : Type) (enc : TypeId × Value → H) :
    ReturnsInHanded {} Try.checked os 3 .any (Rows.fnCodeKeyCutAndFoldSpec.pre6 enc Try.prog Try.f3 Rows.fnCodeKeyCutAndFoldRow.domain false) (Rows.fnCodeKeyCutAndFoldSpec.post enc Try.prog Try.f3 false true false false) := by
  refine returnsInHanded_of_change (C := Try.checked) own started (by kernel_rfl) Try.func3
    (ChangeSpec.witness6 (enc := enc) (C := Try.checked) false ⟨#[], #[.string ByteArray.empty, .int .i64 0], []⟩ 8 (by kernel_rfl) (by kernel_rfl) (by kernel_rfl) (by kernel_rfl)) ?_
  intro W base args ds gs before hval0 hW hcnd _
  have hval : ∀ (j : Nat) t v, Try.f3.params[j]? = some t → args[j]? = some v → Value.okWide Try.prog W .any base t v := hval0
  have hW' := hW
  obtain ⟨p, q, hA0, hV, rfl, hfz, hnd⟩ := hW
  have hA : DataW.TrodAll enc Try.prog W 0 (fun _ => true) true Try.f3.params.toList args.toList ds p := hA0
  rw [Try.params3] at hA hval
  obtain ⟨v0, vs0, d0, ds0, p0, q0, hargs, rfl, rfl, h0, r0⟩ := trodAll_cons hA
  obtain ⟨v1, vs1, d1, ds1, p1, q1, rfl, rfl, rfl, h1, r1⟩ := trodAll_cons r0
  obtain ⟨rfl, rfl, rfl⟩ := trodAll_nil r1
  obtain rfl : args = #[v0, v1] := by cases args; simp_all
  obtain ⟨rfl, rfl⟩ := trodVars_none hV
  obtain ⟨a0, rfl, rfl, rfl, w0⟩ := open_string Try.underlying9 (hval 0 9 v0 rfl rfl) h0
  obtain ⟨a1, rfl, rfl, rfl, w1⟩ := open_int Try.underlying3 (hval 1 3 v1 rfl rfl) h1
  clear hA0 hval0
  simp only [List.append_nil] at hW'
  refine (walk a0 a1 w0 w1 W).mono fun e W' ⟨he, hg⟩ => ?_
  subst he
  exact ⟨_, rfl, _, _, _, [], [], [], hW', trodAll_mk1 (shut_bool Try.underlying4 _), (trodAll_cons_mk (shut_string Try.underlying9 w0) (trodAll_cons_mk (shut_int Try.underlying3 w1) trodAll_mk0)), rfl, hg.frame _, fun h => by cases h⟩

theorem over : Rows.fnCodeKeyCutAndFoldRow.holds Try.pinned (OpenSpec.ofChange Rows.fnCodeKeyCutAndFoldSpec) :=
  OpenClaim.holds_of_wide 3 Try.f3 rfl rfl rfl rfl rfl rfl rfl ⟨rfl, rfl, rfl, rfl, rfl⟩ rfl rfl rfl rfl rfl (by kernel_rfl) Try.func3 (by kernel_rfl)
    (of_decide_eq_true (by kernel_rfl)) (by unfold Func.isWrapper; first | (rw [if_pos (by decide +kernel)]; kernel_rfl) | (rw [if_neg (by decide +kernel)]; exact ⟨rfl, rfl⟩))
    (fun os started H enc _ => lifted os started H enc)

/-- ████ THE STATEMENT ████ -/
theorem proved : Rows.FnCodeKeyCutAndFoldSaid :=
  over
#print axioms proved
end Go.Proofs.Qxb6630631a.fnCodeKeyCutAndFold
