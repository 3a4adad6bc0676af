/-
  THE WALK OF 'FnBufferInjectiveAndSized'.
-/
import Derived.Test.Qxb6626004aLaw
namespace Go.Proofs.Qxb6626004a
open Go.RowKit
set_option linter.unusedVariables false

set_option maxRecDepth 100000 in
set_option maxHeartbeats 1000000 in
theorem sized_main (a0 : Option Addr) (n0 c0 : Nat) (ps : List Int) (a1 : Option Addr) (n1 c1 : Nat) (xs : List Int) (a2 : Option Addr) (n2 c2 : Nat) (ys : List Int) (w : World)
    (l0 : ps.length = n0) (l1 : xs.length = n1) (l2 : ys.length = n2) (s0 : Src w a0 ps) (s1 : Src w a1 xs) (s2 : Src w a2 ys) (hsum : n0 + n1 + n2 ≤ 1048576) (b0 : n0 ≤ 262144) (b1 : n1 ≤ 262144) (b2 : n2 ≤ 262144) :
    Calls Try.prog 4 #[.slice a0 n0 c0, .slice a1 n1 c1, .slice a2 n2 c2] w fun e w' => e = .returned (.bool true) ∧ Below w.heap.size w w' := by
  have hd : decide (n0 + n1 + n2 ≤ 1048576) = true := by simp [hsum]
  have q22 : ∀ (w : World) (a : Option Addr) (n c n' c' : Nat), (binOp .eql 22 (.slice a n c) (.slice none n' c')).run Try.prog w = .ok (.bool a.isNone) w := fun w a n c n' c' => Lib.run_eql_slice_nil w _ _ a n c n' c' Try.underlying22
  have L0 : Hid (ps.length = n0) := l0
  have L1 : Hid (xs.length = n1) := l1
  have L2 : Hid (ys.length = n2) := l2
  have S0 : Hid (Src w a0 ps) := s0
  have S1 : Hid (Src w a1 xs) := s1
  have S2 : Hid (Src w a2 ys) := s2
  clear l0 l1 l2 s0 s1 s2
  go_enter Try.func4, Try.ntmps4
  go_wp2_with fail
  refine (guard12_any _ _ _ _ _ _ _ _ _ _ (by unfold maxLen; omega) (by unfold maxLen; omega) (by unfold maxLen; omega)).mono ?_
  rintro e w' ⟨rfl, rfl⟩
  go_wp2_with fail
  refine (clone_any L0.out (by omega) S0.out).mono ?_
  rintro e v1 ⟨g1, k1, rfl, ho1, hb1⟩
  have HO1 : Hid (v1.ownsRow w.heap.size 5 1 (.slice g1 n0 k1) n0 (u8s ps)) := ho1
  have HB1 : Hid (Below w.heap.size w v1) := hb1
  clear ho1 hb1
  go_wp2_with fail
  refine (newEnc_any w.heap.size g1 n0 k1 ps v1 HB1.out.size L0.out HO1.out).mono ?_
  rintro e v2 ⟨rfl, he2, hb2⟩
  have HE2 : Hid (Enc w.heap.size v1.heap.size v2 (.slice g1 n0 k1) ps) := he2
  have HB2 : Hid (Below w.heap.size w v2) := HB1.out.trans (hb2.mono HB1.out.size)
  clear he2 hb2
  go_wp2_with fail
  refine (buffer_any (w0 := w) HB2.out.size (by rw [L0.out]; omega) HE2.out L1.out (by omega) S1.out (Nat.le_refl _) HB2.out).mono ?_
  rintro e v3 ⟨rfl, bv3, he3, hb3⟩
  have HE3 : Hid (Enc w.heap.size v1.heap.size v3 bv3 (ps ++ encOf a1 xs)) := he3
  have HB3 : Hid (Below w.heap.size w v3) := HB2.out.trans hb3
  clear he3 hb3 HE2 HO1
  go_wp2_with fail
  refine (clone_any L0.out (by omega) (S0.out.later (Nat.le_refl _) HB3.out)).mono ?_
  rintro e v4 ⟨g4, k4, rfl, ho4, hb4⟩
  have HO4 : Hid (v4.ownsRow v3.heap.size 5 1 (.slice g4 n0 k4) n0 (u8s ps)) := ho4
  have HB4 : Hid (Below v3.heap.size v3 v4) := hb4
  clear ho4 hb4
  go_wp2_with fail
  refine (newEnc_any v3.heap.size g4 n0 k4 ps v4 HB4.out.size L0.out HO4.out).mono ?_
  rintro e v5 ⟨rfl, he5, hb5⟩
  have HE5 : Hid (Enc v3.heap.size v4.heap.size v5 (.slice g4 n0 k4) ps) := he5
  have HB5 : Hid (Below v3.heap.size v3 v5) := HB4.out.trans (hb5.mono HB4.out.size)
  have HW5 : Hid (Below w.heap.size w v5) := HB3.out.trans (HB5.out.mono HB3.out.size)
  clear he5 hb5
  go_wp2_with fail
  refine (buffer_any (w0 := w) HB5.out.size (by rw [L0.out]; omega) HE5.out L2.out (by omega) S2.out HB3.out.size HW5.out).mono ?_
  rintro e v6 ⟨rfl, bv6, he6, hb6⟩
  have HE6 : Hid (Enc v3.heap.size v4.heap.size v6 bv6 (ps ++ encOf a2 ys)) := he6
  have HB6 : Hid (Below v3.heap.size v3 v6) := HB5.out.trans hb6
  have HE3' : Hid (Enc w.heap.size v1.heap.size v6 bv3 (ps ++ encOf a1 xs)) := HE3.out.later HB6.out
  have HW6 : Hid (Below w.heap.size w v6) := HB3.out.trans (HB6.out.mono HB3.out.size)
  clear he6 hb6 HE5 HO4 HW5 HE3 HB4 HB5
  have e1 : (ps ++ encOf a1 xs).length = n0 + 4 + n1 := by rw [List.length_append, encOf_len S1.out.1, L0.out, L1.out]; omega
  have e2 : (ps ++ encOf a2 ys).length = n0 + 4 + n2 := by rw [List.length_append, encOf_len S2.out.1, L0.out, L2.out]; omega
  obtain ⟨g3, k3, hv3, m3, m3'⟩ := HE3'.out.at e1 (by omega)
  obtain ⟨g6, k6, hv6, m6, m6'⟩ := HE6.out.at e2 (by omega)
  have E1 : Hid ((ps ++ encOf a1 xs).length = n0 + 4 + n1) := e1
  have E2 : Hid ((ps ++ encOf a2 ys).length = n0 + 4 + n2) := e2
  rw [hv3] at HE3'
  rw [hv6] at HE6
  clear e1 e2 hv3 hv6
  go_wp2_with fail
  refine (buf_any _ _ _ _ _ HE3'.out).mono ?_
  rintro e w' ⟨rfl, rfl⟩
  go_wp2_with fail
  refine (buf_any _ _ _ _ _ HE6.out).mono ?_
  rintro e w' ⟨rfl, rfl⟩
  have hn1 : (((n0 + 4 + n1 : Nat) : Int) != (n0 : Int) + 4 + (n1 : Int)) = false := by simp
  have hn2 : (((n0 + 4 + n2 : Nat) : Int) != (n0 : Int) + 4 + (n2 : Int)) = false := by simp
  unfold maxLen at m3' m6'
  have E3 : Hid (Sees v6 (some ⟨g3, 0, none⟩) (ps ++ encOf a1 xs)) := HE3'.out.sees E1.out
  have E6 : Hid (Sees v6 (some ⟨g6, 0, none⟩) (ps ++ encOf a2 ys)) := HE6.out.sees E2.out
  have T0 : Hid (Sees v6 a0 ps) := (S0.out.later (Nat.le_refl _) HW6.out).sees
  have T1 : Hid (Sees v6 a1 xs) := (S1.out.later (Nat.le_refl _) HW6.out).sees
  have T2 : Hid (Sees v6 a2 ys) := (S2.out.later (Nat.le_refl _) HW6.out).sees
  have ml0 : n0 ≤ maxLen := by unfold maxLen; omega
  have ml1 : n1 ≤ maxLen := by unfold maxLen; omega
  have ml3 : n0 + 4 + n1 ≤ maxLen := by unfold maxLen; omega
  have dd : decide (ps = ps) = true := by simp
  have LW : Hid (decide (encOf a1 xs = encOf a2 ys) = ((a1.isNone == a2.isNone) && decide (xs = ys))) := law_plain S1.out.1 S2.out.1 (by rw [L1.out]; omega) (by rw [L2.out]; omega)
  clear HE3' HE6 HB6 HB3 HB2 HB1
  go_wp2_with fail
  refine (eq_any (xs := ps) (ys := ps) (w := v6) L0.out L0.out ml0 E3.out.head T0.out).mono ?_
  rintro e w' ⟨rfl, q1, rfl⟩
  go_wp2_with fail
  refine (eq_any (xs := ps) (ys := ps) (w := v6.drewN q1) L0.out L0.out ml0 E6.out.head T0.out).mono ?_
  rintro e w' ⟨rfl, q2, rfl⟩
  cases hnn : (a1.isNone == a2.isNone) with
  | true =>
    go_wp2_with fail
    refine (eq_any (xs := xs) (ys := ys) (w := v6.drewN (q1 + q2)) L1.out L2.out ml1 T1.out T2.out).mono ?_
    rintro e w' ⟨rfl, q3, rfl⟩
    go_wp2_with fail
    refine (eq_any (xs := ps ++ encOf a1 xs) (ys := ps ++ encOf a2 ys) (w := v6.drewN (q1 + q2 + q3)) E1.out E2.out ml3 E3.out E6.out).mono ?_
    rintro e w' ⟨rfl, q4, rfl⟩
    go_wp2
    go_ret
    exact ⟨ret_bool (by have := LW.out; rw [hnn, Bool.true_and] at this; rw [this]; simp), below_drewN HW6.out _⟩
  | false =>
    go_wp2_with fail
    refine (eq_any (xs := ps ++ encOf a1 xs) (ys := ps ++ encOf a2 ys) (w := v6.drewN (q1 + q2)) E1.out E2.out ml3 E3.out E6.out).mono ?_
    rintro e w' ⟨rfl, q4, rfl⟩
    go_wp2
    go_ret
    exact ⟨ret_bool (by have := LW.out; rw [hnn, Bool.false_and] at this; rw [this]; simp), below_drewN HW6.out _⟩
end Go.Proofs.Qxb6626004a
