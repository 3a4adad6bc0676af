/-
  THE WALK OF 'FnBufferFramesRoundTrip'.
-/
import Derived.Test.Qxb6626004aRead
namespace Go.Proofs.Qxb6626004a
open Go.RowKit
set_option linter.unusedVariables false

set_option maxRecDepth 100000 in
set_option maxHeartbeats 1000000 in
theorem trip_main (a0 : Option Addr) (n0 c0 : Nat) (ps : List Int) (a1 : Option Addr) (n1 c1 : Nat) (xs : List Int) (a2 : Option Addr) (n2 c2 : Nat) (ys : List Int) (w : World)
    (l0 : ps.length = n0) (l1 : xs.length = n1) (l2 : ys.length = n2) (s0 : Src w a0 ps) (s1 : Src w a1 xs) (s2 : Src w a2 ys) (hsum : n0 + n1 + n2 ≤ 1048576) (b0 : n0 ≤ 262144) (b1 : n1 ≤ 262144) (b2 : n2 ≤ 262144) :
    Calls Try.prog 3 #[.slice a0 n0 c0, .slice a1 n1 c1, .slice a2 n2 c2] w fun e w' => e = .returned (.bool true) ∧ Below w.heap.size w w' := by
  have hd : decide (n0 + n1 + n2 ≤ 1048576) = true := by simp [hsum]
  have q22 : ∀ (w : World) (a : Option Addr) (n c n' c' : Nat), (binOp .eql 22 (.slice a n c) (.slice none n' c')).run Try.prog w = .ok (.bool a.isNone) w := fun w a n c n' c' => Lib.run_eql_slice_nil w _ _ a n c n' c' Try.underlying22
  have L0 : Hid (ps.length = n0) := l0
  have L1 : Hid (xs.length = n1) := l1
  have L2 : Hid (ys.length = n2) := l2
  have S0 : Hid (Src w a0 ps) := s0
  have S1 : Hid (Src w a1 xs) := s1
  have S2 : Hid (Src w a2 ys) := s2
  clear l0 l1 l2 s0 s1 s2
  go_enter Try.func3, Try.ntmps3
  go_wp2_with fail
  refine (guard5_any _ _ _ _ _ _ _ _ _ _ (by unfold maxLen; omega) (by unfold maxLen; omega) (by unfold maxLen; omega)).mono ?_
  rintro e w' ⟨rfl, rfl⟩
  go_wp2_with fail
  refine (clone_any L0.out (by omega) S0.out).mono ?_
  rintro e v1 ⟨g1, k1, rfl, ho1, hb1⟩
  have HO1 : Hid (v1.ownsRow w.heap.size 5 1 (.slice g1 n0 k1) n0 (u8s ps)) := ho1
  have HB1 : Hid (Below w.heap.size w v1) := hb1
  clear ho1 hb1
  go_wp2_with fail
  refine (newEnc_any w.heap.size g1 n0 k1 ps v1 HB1.out.size L0.out HO1.out).mono ?_
  rintro e v2 ⟨rfl, he2, hb2⟩
  have HE2 : Hid (Enc w.heap.size v1.heap.size v2 (.slice g1 n0 k1) ps) := he2
  have HB2 : Hid (Below w.heap.size w v2) := HB1.out.trans (hb2.mono HB1.out.size)
  clear he2 hb2
  go_wp2_with fail
  refine (buffer_any (w0 := w) HB2.out.size (by rw [L0.out]; omega) HE2.out L1.out (by omega) S1.out (Nat.le_refl _) HB2.out).mono ?_
  rintro e v3 ⟨rfl, bv3, he3, hb3⟩
  have HE3 : Hid (Enc w.heap.size v1.heap.size v3 bv3 (ps ++ encOf a1 xs)) := he3
  have HB3 : Hid (Below w.heap.size w v3) := HB2.out.trans hb3
  have e1 : (ps ++ encOf a1 xs).length = n0 + (4 + n1) := by rw [List.length_append, encOf_len S1.out.1, L0.out, L1.out]
  have E1 : Hid ((ps ++ encOf a1 xs).length = n0 + (4 + n1)) := e1
  clear he3 hb3 HE2 HO1 e1
  go_wp2_with fail
  refine (buffer_any (w0 := w) HB3.out.size (by rw [E1.out]; omega) HE3.out L2.out (by omega) S2.out (Nat.le_refl _) HB3.out).mono ?_
  rintro e v4 ⟨rfl, bv4, he4, hb4⟩
  have HE4 : Hid (Enc w.heap.size v1.heap.size v4 bv4 (ps ++ encOf a1 xs ++ encOf a2 ys)) := he4
  have HB4 : Hid (Below w.heap.size w v4) := HB3.out.trans hb4
  clear he4 hb4 HE3 HB3
  have e2 : (ps ++ encOf a1 xs ++ encOf a2 ys).length = n0 + (4 + n1) + (4 + n2) := by rw [List.length_append, E1.out, encOf_len S2.out.1, L2.out]
  obtain ⟨g4, k4, hv4, m4, m4'⟩ := HE4.out.at e2 (by omega)
  have E2 : Hid ((ps ++ encOf a1 xs ++ encOf a2 ys).length = n0 + (4 + n1) + (4 + n2)) := e2
  rw [hv4] at HE4
  clear e2 hv4
  go_wp2_with fail
  refine (buf_any _ _ _ _ _ HE4.out).mono ?_
  rintro e w' ⟨rfl, rfl⟩
  -- the fresh encoders
  go_wp2_with fail
  refine (newEnc_any v4.heap.size none 0 0 [] v4 (Nat.le_refl _) rfl (World.ownsRow_nil _ _ _ _)).mono ?_
  rintro e v5 ⟨rfl, he5, hb5⟩
  have HE5 : Hid (Enc v4.heap.size v4.heap.size v5 (.slice none 0 0) []) := he5
  have HB5 : Hid (Below v4.heap.size v4 v5) := hb5
  have HW5 : Hid (Below w.heap.size w v5) := HB4.out.trans (hb5.mono HB4.out.size)
  clear he5 hb5
  go_wp2_with fail
  refine (buffer_any (w0 := w) HB5.out.size (by simp) HE5.out L1.out (by omega) S1.out HB4.out.size HW5.out).mono ?_
  rintro e v6 ⟨rfl, bv6, he6, hb6⟩
  rw [List.nil_append] at he6
  have HE6 : Hid (Enc v4.heap.size v4.heap.size v6 bv6 (encOf a1 xs)) := he6
  have HB6 : Hid (Below v4.heap.size v4 v6) := HB5.out.trans hb6
  have HW6 : Hid (Below w.heap.size w v6) := HB4.out.trans (HB6.out.mono HB4.out.size)
  clear he6 hb6 HE5 HB5 HW5
  go_wp2_with fail
  refine (newEnc_any v6.heap.size none 0 0 [] v6 (Nat.le_refl _) rfl (World.ownsRow_nil _ _ _ _)).mono ?_
  rintro e v7 ⟨rfl, he7, hb7⟩
  have HE7 : Hid (Enc v6.heap.size v6.heap.size v7 (.slice none 0 0) []) := he7
  have HB7 : Hid (Below v6.heap.size v6 v7) := hb7
  have HW7 : Hid (Below w.heap.size w v7) := HW6.out.trans (hb7.mono HW6.out.size)
  clear he7 hb7
  go_wp2_with fail
  refine (buffer_any (w0 := w) HB7.out.size (by simp) HE7.out L2.out (by omega) S2.out HW6.out.size HW7.out).mono ?_
  rintro e v8 ⟨rfl, bv8, he8, hb8⟩
  rw [List.nil_append] at he8
  have HE8 : Hid (Enc v6.heap.size v6.heap.size v8 bv8 (encOf a2 ys)) := he8
  have HB8 : Hid (Below v6.heap.size v6 v8) := HB7.out.trans hb8
  have HW8 : Hid (Below w.heap.size w v8) := HW6.out.trans (HB8.out.mono HW6.out.size)
  have HE6' : Hid (Enc v4.heap.size v4.heap.size v8 bv6 (encOf a1 xs)) := HE6.out.later HB8.out
  have HE4' : Hid (Enc w.heap.size v1.heap.size v8 (.slice (some ⟨g4, 0, none⟩) (n0 + (4 + n1) + (4 + n2)) k4) (ps ++ encOf a1 xs ++ encOf a2 ys)) := (HE4.out.later HB6.out).later HB8.out
  clear he8 hb8 HE7 HB7 HW7 HE6 HE4 HB8 HB6 HW6 HB4
  have e6 : (encOf a1 xs).length = 4 + n1 := by rw [encOf_len S1.out.1, L1.out]
  have e8 : (encOf a2 ys).length = 4 + n2 := by rw [encOf_len S2.out.1, L2.out]
  obtain ⟨g6, k6, hv6, m6, m6'⟩ := HE6'.out.at e6 (by omega)
  obtain ⟨g8, k8, hv8, m8, m8'⟩ := HE8.out.at e8 (by omega)
  have E6 : Hid ((encOf a1 xs).length = 4 + n1) := e6
  have E8 : Hid ((encOf a2 ys).length = 4 + n2) := e8
  rw [hv6] at HE6'
  rw [hv8] at HE8
  clear e6 e8 hv6 hv8
  go_wp2_with fail
  refine (buf_any _ _ _ _ _ HE6'.out).mono ?_
  rintro e w' ⟨rfl, rfl⟩
  go_wp2_with fail
  refine (buf_any _ _ _ _ _ HE8.out).mono ?_
  rintro e w' ⟨rfl, rfl⟩
  have S4 : Hid (Sees v8 (some ⟨g4, 0, none⟩) (ps ++ encOf a1 xs ++ encOf a2 ys)) := HE4'.out.sees E2.out
  have S6 : Hid (Sees v8 (some ⟨g6, 0, none⟩) (encOf a1 xs)) := HE6'.out.sees E6.out
  have S8 : Hid (Sees v8 (some ⟨g8, 0, none⟩) (encOf a2 ys)) := HE8.out.sees E8.out
  have T0 : Hid (Sees v8 a0 ps) := (S0.out.later (Nat.le_refl _) HW8.out).sees
  have T1 : Hid (Sees v8 a1 xs) := (S1.out.later (Nat.le_refl _) HW8.out).sees
  have T2 : Hid (Sees v8 a2 ys) := (S2.out.later (Nat.le_refl _) HW8.out).sees
  have ml0 : n0 ≤ maxLen := by unfold maxLen; omega
  have ml1 : n1 ≤ maxLen := by unfold maxLen; omega
  have ml2 : n2 ≤ maxLen := by unfold maxLen; omega
  have ml6 : 4 + n1 ≤ maxLen := by unfold maxLen; omega
  have ml8 : 4 + n2 ≤ maxLen := by unfold maxLen; omega
  have MK : Hid (k4 ≤ maxLen) := m4'
  have hn1 : (((n0 + (4 + n1) + (4 + n2) : Nat) : Int) != (n0 : Int) + ((4 + n1 : Nat) : Int) + ((4 + n2 : Nat) : Int)) = false := by simp
  unfold maxLen at m4' m6' m8'
  clear HE4' HE6' HE8 HB2 HB1
  go_wp2_with fail
  refine (eq_any (xs := ps) (ys := ps) (w := v8) L0.out L0.out ml0 (by have := S4.out; rw [List.append_assoc] at this; exact this.head) T0.out).mono ?_
  rintro e w' ⟨rfl, q1, rfl⟩
  have S4a : Hid (Sees v8 (some ⟨g4, n0, none⟩) (encOf a1 xs ++ encOf a2 ys)) := by
    have := S4.out
    rw [List.append_assoc] at this
    have := this.tail L0.out
    rwa [Nat.zero_add] at this
  have S4b : Hid (Sees v8 (some ⟨g4, n0 + (4 + n1), none⟩) (encOf a2 ys)) := S4a.out.tail E6.out
  have S4' : Hid (Sees v8 (some ⟨g4, 0, none⟩) (ps ++ (encOf a1 xs ++ encOf a2 ys))) := by have := S4.out; rwa [List.append_assoc] at this
  have S4'' : Hid (Sees v8 (some ⟨g4, 0, none⟩) (ps ++ encOf a1 xs ++ (encOf a2 ys ++ []))) := by have := S4.out; rwa [List.append_nil]
  have E2' : Hid ((ps ++ (encOf a1 xs ++ encOf a2 ys)).length = n0 + (4 + n1) + (4 + n2)) := by have := E2.out; rwa [List.append_assoc] at this
  have E2'' : Hid ((ps ++ encOf a1 xs ++ (encOf a2 ys ++ [])).length = n0 + (4 + n1) + (4 + n2)) := by have := E2.out; rwa [List.append_nil]
  have E1' : Hid ((ps ++ encOf a1 xs).length = n0 + 4 + n1) := by have := E1.out; show _ = _; rw [this]; omega
  go_wp2_with fail
  refine (eq_any (xs := encOf a1 xs) (ys := encOf a1 xs) (w := v8.drewN q1) E6.out E6.out ml6 S4a.out.head S6.out).mono ?_
  rintro e w' ⟨rfl, q2, rfl⟩
  go_wp2_with fail
  refine (eq_any (xs := encOf a2 ys) (ys := encOf a2 ys) (w := v8.drewN (q1 + q2)) E8.out E8.out ml8 S4b.out S8.out).mono ?_
  rintro e w' ⟨rfl, q3, rfl⟩
  go_wp2_with fail
  refine (read_at (w := v8.drewN (q1 + q2 + q3)) L1.out S4'.out E2'.out L0.out m4 (by omega) MK.out (by omega) S1.out.1).mono ?_
  rintro e w' ⟨g9, k9, q4, rfl, T9, rfl⟩
  go_wp2_with fail
  refine (eq_any (xs := xs) (ys := xs) (w := v8.drewN (q1 + q2 + q3 + q4)) L1.out L1.out ml1 T9 T1.out).mono ?_
  rintro e w' ⟨rfl, q5, rfl⟩
  clear T9
  go_wp2_with fail
  rw [show (n0 : Int) + 4 + (n1 : Int) = ((n0 + 4 + n1 : Nat) : Int) by omega]
  refine (read_at (w := v8.drewN (q1 + q2 + q3 + q4 + q5)) L2.out S4''.out E2''.out E1'.out m4 (by omega) MK.out (by omega) S2.out.1).mono ?_
  rintro e w' ⟨g10, k10, q6, rfl, T10, rfl⟩
  go_wp2_with fail
  refine (eq_any (xs := ys) (ys := ys) (w := v8.drewN (q1 + q2 + q3 + q4 + q5 + q6)) L2.out L2.out ml2 T10 T2.out).mono ?_
  rintro e w' ⟨rfl, q7, rfl⟩
  clear T10
  go_wp2
  go_ret
  exact ⟨ret_bool (by simp; omega), below_drewN HW8.out _⟩
end Go.Proofs.Qxb6626004a
