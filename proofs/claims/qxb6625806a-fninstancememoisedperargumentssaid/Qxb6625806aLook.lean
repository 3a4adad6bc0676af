/-
  THE WALK OF '(*Datatype).Instance'.
-/
import Derived.Test.Qxb6625806aMemo
namespace Go.Proofs.Qxb6625806a
open Go.RowKit
set_option linter.unusedVariables false

set_option maxHeartbeats 400000 in
theorem found_core (B D gi n ci : Nat) (T : Nat → Nat) (A : Nat → Value) (Z : Nat → List Int) (v : Value) (zs : List Int) (w : World) (hn : n ≤ maxLen) (m : Nat) (hm : m < n)
    (h4 : w.cell? ⟨D, 4, none⟩ = some (.slice (some ⟨gi, 0, none⟩) n ci))
    (hT : ∀ j, j < n → w.cell? ⟨gi, j, none⟩ = some (.pointer (some ⟨T j, 0, none⟩)))
    (hA : ∀ j, j < n → w.cell? ⟨T j, 1, none⟩ = some (A j))
    (hZ : ∀ j, j < n → w.ownsRow B 40 1 (A j) (Z j).length (ifs (Z j)))
    (hv : w.ownsRow B 40 1 v zs.length (ifs zs)) (hyes : Z m = zs) (hno : ∀ j, j < m → ¬ Z j = zs) :
    Calls Try.prog 8 #[.pointer (some ⟨D, 0, none⟩), v] w fun e w' => e = .returned (.pointer (some ⟨T m, 0, none⟩)) ∧ ∃ n, w' = w.drewN n := by
  unfold maxLen at hn
  have HT : Hid (∀ j, j < n → w.cell? ⟨gi, j, none⟩ = some (.pointer (some ⟨T j, 0, none⟩))) := hT
  have HA : Hid (∀ j, j < n → w.cell? ⟨T j, 1, none⟩ = some (A j)) := hA
  have HZ : Hid (∀ j, j < n → w.ownsRow B 40 1 (A j) (Z j).length (ifs (Z j))) := hZ
  have HV : Hid (w.ownsRow B 40 1 v zs.length (ifs zs)) := hv
  have HY : Hid (Z m = zs) := hyes
  have HN : Hid (∀ j, j < m → ¬ Z j = zs) := hno
  clear hT hA hZ hv hyes hno
  go_enter Try.func8, Try.ntmps8
  go_wp2
  go_loopw [13] (fun i wr => ∃ k : Nat, k ≤ m ∧ i = .int .i64 k ∧ ∃ q, wr = w.drewN q) (fun i _ => m + 1 - (intOf i).toNat)
  case atStart => exact ⟨0, Nat.zero_le _, rfl, 0, rfl⟩
  case round =>
    obtain ⟨k, hk, rfl, hw⟩ := hrel
    have HW : Hid (∃ q, wr = w.drewN q) := hw
    clear hw
    have hlt : k < n := by omega
    have cT : wr.cell? ⟨gi, k, none⟩ = some (.pointer (some ⟨T k, 0, none⟩)) := by
      obtain ⟨q, rfl⟩ := HW.out; exact HT.out k hlt
    have cA : wr.cell? ⟨T k, 1, none⟩ = some (A k) := by
      obtain ⟨q, rfl⟩ := HW.out; exact HA.out k hlt
    have HK : Hid (Calls Try.prog 9 #[A k, v] wr fun e w' => e = .returned (.bool (decide (Z k = zs))) ∧ ∃ n, w' = wr.drewN n) := by
      obtain ⟨q, rfl⟩ := HW.out
      exact equal_any (B := B) (A k) v (Z k) zs (w.drewN q) (HZ.out k hlt) HV.out
    by_cases hkm : k = m
    · subst hkm
      have hd : decide (Z k = zs) = true := decide_eq_true HY.out
      go_wp2_with fail
      refine HK.out.mono ?_
      rintro e w' ⟨rfl, q, rfl⟩
      go_wp2
      go_ret
      exact ⟨rfl, drawn_on HW.out _⟩
    · have hd : decide (Z k = zs) = false := decide_eq_false (HN.out k (by omega))
      go_wp2_with fail
      refine HK.out.mono ?_
      rintro e w' ⟨rfl, q, rfl⟩
      go_wp2
      go_roundw
      case rel => exact ⟨k + 1, by omega, by go_num, drawn_on HW.out _⟩
      case measure => simp [intOf]; omega

theorem memo_mid {B D : Nat} {w w1 w4 : World} {L : List (Nat × List Int)} {iv av : Value} (M : Memo B w D L iv) (hb1 : Below w.heap.size w w1)
    (hg : ((w1.alloc (.cells #[ptr D, av] 35)).alloc (.cells #[ptr w1.heap.size] 31)).grownBy w4 iv.ownBlock) :
    w4.cell? ⟨D, 4, none⟩ = some iv ∧ w4.frozen? ⟨D, 4, none⟩ = false := by
  have M3 := (M.below hb1).below (((Below.refl _ _).alloc (Nat.le_refl _) (.cells #[ptr D, av] 35)).alloc (by simp) (.cells #[ptr w1.heap.size] 31))
  obtain ⟨c0, c1, c2, c3, hd3⟩ := M3.dblk
  have hd4 : w4.heap[D]? = some (.cells #[c0, c1, c2, c3, iv] 30 (0, 0)) := by
    rw [hg.block D (lt_of_block hd3) (fun c => ?_)]
    · exact hd3
    · obtain ⟨_, cs', h'⟩ := own_type M3.own c.symm
      rw [hd3] at h'
      simp at h'
  exact ⟨by simp [World.cell?, hd4], by simp [World.frozen?, hd4]⟩

set_option maxHeartbeats 800000 in
theorem new_core (B D gi n ci : Nat) (T : Nat → Nat) (A : Nat → Value) (Z : Nat → List Int) (L : List (Nat × List Int)) (v : Value) (zs : List Int) (w : World) (hn : n ≤ 1048576) (hBw : B ≤ w.heap.size)
    (hL : L.length = n) (M : Memo B w D L (.slice (some ⟨gi, 0, none⟩) n ci)) (hsm : zs.length ≤ 1048576) (hnn : v ≠ .slice none 0 0)
    (h4 : w.cell? ⟨D, 4, none⟩ = some (.slice (some ⟨gi, 0, none⟩) n ci))
    (hT : ∀ j, j < n → w.cell? ⟨gi, j, none⟩ = some (.pointer (some ⟨T j, 0, none⟩)))
    (hA : ∀ j, j < n → w.cell? ⟨T j, 1, none⟩ = some (A j))
    (hZ : ∀ j, j < n → w.ownsRow B 40 1 (A j) (Z j).length (ifs (Z j)))
    (hv : w.ownsRow B 40 1 v zs.length (ifs zs)) (hno : ∀ j, j < n → ¬ Z j = zs) :
    Calls Try.prog 8 #[.pointer (some ⟨D, 0, none⟩), v] w fun e w' => ∃ t iv', e = .returned (.pointer (some ⟨t, 0, none⟩)) ∧ w.heap.size ≤ t ∧ Memo B w' D (L ++ [(t, zs)]) iv' ∧ Keep w w' ∧ Below B w w' := by
  obtain ⟨i0, hi, hz0, hz1, hz2⟩ := info_parts info31
  have HT : Hid (∀ j, j < n → w.cell? ⟨gi, j, none⟩ = some (.pointer (some ⟨T j, 0, none⟩))) := hT
  have HA : Hid (∀ j, j < n → w.cell? ⟨T j, 1, none⟩ = some (A j)) := hA
  have HZ : Hid (∀ j, j < n → w.ownsRow B 40 1 (A j) (Z j).length (ifs (Z j))) := hZ
  have HV : Hid (w.ownsRow B 40 1 v zs.length (ifs zs)) := hv
  have HN : Hid (∀ j, j < n → ¬ Z j = zs) := hno
  have HNN : Hid (v ≠ .slice none 0 0) := hnn
  have HL : Hid (L.length = n) := hL
  clear hT hA hZ hv hno hnn hL
  go_enter Try.func8, Try.ntmps8
  go_wp2
  go_loopw [13] (fun i wr => ∃ k : Nat, k ≤ n ∧ i = .int .i64 k ∧ ∃ q, wr = w.drewN q) (fun i _ => n + 1 - (intOf i).toNat)
  case atStart => exact ⟨0, Nat.zero_le _, rfl, 0, rfl⟩
  case round =>
    obtain ⟨k, hk, rfl, hw⟩ := hrel
    have HW : Hid (∃ q, wr = w.drewN q) := hw
    clear hw
    by_cases hlt : k < n
    · have cT : wr.cell? ⟨gi, k, none⟩ = some (.pointer (some ⟨T k, 0, none⟩)) := by
        obtain ⟨q, rfl⟩ := HW.out; exact HT.out k hlt
      have cA : wr.cell? ⟨T k, 1, none⟩ = some (A k) := by
        obtain ⟨q, rfl⟩ := HW.out; exact HA.out k hlt
      have HK : Hid (Calls Try.prog 9 #[A k, v] wr fun e w' => e = .returned (.bool (decide (Z k = zs))) ∧ ∃ n, w' = wr.drewN n) := by
        obtain ⟨q, rfl⟩ := HW.out
        exact equal_any (B := B) (A k) v (Z k) zs (w.drewN q) (HZ.out k hlt) HV.out
      have hd : decide (Z k = zs) = false := decide_eq_false (HN.out k hlt)
      go_wp2_with fail
      refine HK.out.mono ?_
      rintro e w' ⟨rfl, q, rfl⟩
      go_wp2
      go_roundw
      case rel => exact ⟨k + 1, by omega, by go_num, drawn_on HW.out _⟩
      case measure => simp [intOf]; omega
    · have HK : Hid (Calls Try.prog 10 #[v] wr fun e w' => ∃ g' c', e = .returned (.slice (some ⟨g', 0, none⟩) zs.length c') ∧ w'.ownsRow B 40 1 (.slice (some ⟨g', 0, none⟩) zs.length c') zs.length (ifs zs) ∧ Below w.heap.size w w') := by
        obtain ⟨q, rfl⟩ := HW.out
        exact (clone_any v zs (w.drewN q) B hBw hsm HV.out HNN.out).mono fun e w' ⟨g', c', h1, h2, h3⟩ => ⟨g', c', h1, h2, ⟨h3.os, h3.tape, h3.output, h3.size, h3.block⟩⟩
      clear HW
      go_wp2_with fail
      refine HK.out.mono ?_
      rintro e w1 ⟨g', c', rfl, hown1, hb1⟩
      clear HK HT HA HZ HN h4
      have M1 := M.below hb1
      have HM : Hid (Memo B w D L (.slice (some ⟨gi, 0, none⟩) n ci)) := M
      have HB1 : Hid (Below w.heap.size w w1) := hb1
      have HO1 : Hid (w1.ownsRow B 40 1 (.slice (some ⟨g', 0, none⟩) zs.length c') zs.length (ifs zs)) := hown1
      have hD : D < w1.heap.size := by obtain ⟨c0, c1, c2, c3, h⟩ := M1.dblk; exact lt_of_block h
      have c4 : w1.cell? ⟨D, 4, none⟩ = some (.slice (some ⟨gi, 0, none⟩) n ci) := by
        obtain ⟨c0, c1, c2, c3, h⟩ := M1.dblk
        simp [World.cell?, h]
      have M3 := M1.below (((Below.refl _ _).alloc (Nat.le_refl _) (.cells #[ptr D, .slice (some ⟨g', 0, none⟩) zs.length c'] 35)).alloc (by simp) (.cells #[ptr w1.heap.size] 31))
      have HO3 : Hid (((w1.alloc (.cells #[.pointer (some ⟨D, 0, none⟩), .slice (some ⟨g', 0, none⟩) zs.length c'] 35)).alloc (.cells #[.pointer (some ⟨w1.heap.size, 0, none⟩)] 31)).ownsRow B 31 1 (.slice (some ⟨gi, 0, none⟩) n ci) n (L.map fun p => ptr p.1)) := by
        have := M3.own
        rw [HL.out] at this
        exact this
      have hbw : B ≤ w1.heap.size := Nat.le_trans hBw hb1.size
      clear M M1 M3 hb1 hown1
      go_wp2_with (at_builtin; refine wpList_append_own _ rfl _ _ 28 rfl B 31 i0 (.pointer none) 1 8 Try.underlying28 hi hz0 hz1 hz2 rfl (by decide) _ n _ rfl HO3.out ⟨w1.heap.size + 1, 0, none⟩ 1 1 [.pointer (some ⟨w1.heap.size, 0, none⟩)] rfl rfl ?c1 ?c2 ?c3 ?c4 ?c5 ?_)
      case c1 =>
        intro j u hj
        match j, hj with
        | 0, hj => simp at hj; subst hj; simp [Addr.add]
      case c2 => intro u hu; simp at hu; subst hu; rfl
      case c3 => unfold maxLen; omega
      case c4 => omega
      case c5 => simp; omega
      intro v' w4 hown4 hgrow hiff
      have hex : ∃ g2 c2, v' = .slice (some ⟨g2, 0, none⟩) (n + 1) c2 := by
        rcases hown4.2 with ⟨_, e1⟩ | ⟨g2, c2, _, e1, _⟩
        · omega
        · exact ⟨g2, c2, e1⟩
      have hown4' : w4.ownsRow B 31 1 v' (L.length + 1) ((L.map fun p => ptr p.1) ++ [ptr w1.heap.size]) := by rw [HL.out]; exact hown4
      have R := memo_add HM.out hBw HB1.out HO1.out hown4' hgrow
      obtain ⟨RM, RK, RB, RS⟩ := R
      have HRM : Hid (Memo B (w4.setCell ⟨D, 4, none⟩ v') D (L ++ [(w1.heap.size, zs)]) v') := RM
      have HRK : Hid (Keep w (w4.setCell ⟨D, 4, none⟩ v')) := RK
      have HRB : Hid (Below B w (w4.setCell ⟨D, 4, none⟩ v')) := RB
      have f4 : w4.cell? ⟨D, 4, none⟩ = some (.slice (some ⟨gi, 0, none⟩) n ci) ∧ w4.frozen? ⟨D, 4, none⟩ = false := memo_mid HM.out HB1.out hgrow
      obtain ⟨f4a, f4b⟩ := f4
      obtain ⟨g2, c2, hv2⟩ := hex
      rw [hv2] at HRM HRK HRB
      rw [hv2]
      clear RM RK RB hown4 hown4' hgrow hiff hv2 HO3 HM HB1 HO1 c4
      go_wp2
      go_ret
      exact ⟨_, _, rfl, RS, HRM.out, HRK.out, HRB.out⟩
set_option maxHeartbeats 800000 in
theorem new_core0 (B D ci : Nat) (ai : Option Addr) (L : List (Nat × List Int)) (v : Value) (zs : List Int) (w : World) (hBw : B ≤ w.heap.size)
    (hL : L.length = 0) (M : Memo B w D L (.slice ai 0 ci)) (hsm : zs.length ≤ 1048576) (hnn : v ≠ .slice none 0 0)
    (h4 : w.cell? ⟨D, 4, none⟩ = some (.slice ai 0 ci))
    (hv : w.ownsRow B 40 1 v zs.length (ifs zs)) :
    Calls Try.prog 8 #[.pointer (some ⟨D, 0, none⟩), v] w fun e w' => ∃ t iv', e = .returned (.pointer (some ⟨t, 0, none⟩)) ∧ w.heap.size ≤ t ∧ Memo B w' D (L ++ [(t, zs)]) iv' ∧ Keep w w' ∧ Below B w w' := by
  obtain ⟨i0, hi, hz0, hz1, hz2⟩ := info_parts info31
  have HV : Hid (w.ownsRow B 40 1 v zs.length (ifs zs)) := hv
  have HNN : Hid (v ≠ .slice none 0 0) := hnn
  have HL : Hid (L.length = 0) := hL
  clear hv hnn hL
  go_enter Try.func8, Try.ntmps8
  go_wp2
  go_loopw [13] (fun i wr => i = .int .i64 0 ∧ ∃ q, wr = w.drewN q) (fun _ _ => 0)
  case atStart => exact ⟨rfl, 0, rfl⟩
  case round =>
    obtain ⟨rfl, hw⟩ := hrel
    have HW : Hid (∃ q, wr = w.drewN q) := hw
    clear hw
    · have HK : Hid (Calls Try.prog 10 #[v] wr fun e w' => ∃ g' c', e = .returned (.slice (some ⟨g', 0, none⟩) zs.length c') ∧ w'.ownsRow B 40 1 (.slice (some ⟨g', 0, none⟩) zs.length c') zs.length (ifs zs) ∧ Below w.heap.size w w') := by
        obtain ⟨q, rfl⟩ := HW.out
        exact (clone_any v zs (w.drewN q) B hBw hsm HV.out HNN.out).mono fun e w' ⟨g', c', h1, h2, h3⟩ => ⟨g', c', h1, h2, ⟨h3.os, h3.tape, h3.output, h3.size, h3.block⟩⟩
      clear HW
      go_wp2_with fail
      refine HK.out.mono ?_
      rintro e w1 ⟨g', c', rfl, hown1, hb1⟩
      clear HK h4
      have M1 := M.below hb1
      have HM : Hid (Memo B w D L (.slice ai 0 ci)) := M
      have HB1 : Hid (Below w.heap.size w w1) := hb1
      have HO1 : Hid (w1.ownsRow B 40 1 (.slice (some ⟨g', 0, none⟩) zs.length c') zs.length (ifs zs)) := hown1
      have hD : D < w1.heap.size := by obtain ⟨c0, c1, c2, c3, h⟩ := M1.dblk; exact lt_of_block h
      have c4 : w1.cell? ⟨D, 4, none⟩ = some (.slice ai 0 ci) := by
        obtain ⟨c0, c1, c2, c3, h⟩ := M1.dblk
        simp [World.cell?, h]
      have M3 := M1.below (((Below.refl _ _).alloc (Nat.le_refl _) (.cells #[ptr D, .slice (some ⟨g', 0, none⟩) zs.length c'] 35)).alloc (by simp) (.cells #[ptr w1.heap.size] 31))
      have HO3 : Hid (((w1.alloc (.cells #[.pointer (some ⟨D, 0, none⟩), .slice (some ⟨g', 0, none⟩) zs.length c'] 35)).alloc (.cells #[.pointer (some ⟨w1.heap.size, 0, none⟩)] 31)).ownsRow B 31 1 (.slice ai 0 ci) 0 (L.map fun p => ptr p.1)) := by
        have := M3.own
        rw [HL.out] at this
        exact this
      have hbw : B ≤ w1.heap.size := Nat.le_trans hBw hb1.size
      clear M M1 M3 hb1 hown1
      go_wp2_with (at_builtin; refine wpList_append_own _ rfl _ _ 28 rfl B 31 i0 (.pointer none) 1 8 Try.underlying28 hi hz0 hz1 hz2 rfl (by decide) _ 0 _ rfl HO3.out ⟨w1.heap.size + 1, 0, none⟩ 1 1 [.pointer (some ⟨w1.heap.size, 0, none⟩)] rfl rfl ?c1 ?c2 ?c3 ?c4 ?c5 ?_)
      case c1 =>
        intro j u hj
        match j, hj with
        | 0, hj => simp at hj; subst hj; simp [Addr.add]
      case c2 => intro u hu; simp at hu; subst hu; rfl
      case c3 => unfold maxLen; omega
      case c4 => omega
      case c5 => simp; omega
      intro v' w4 hown4 hgrow hiff
      have hex : ∃ g2 c2, v' = .slice (some ⟨g2, 0, none⟩) (0 + 1) c2 := by
        rcases hown4.2 with ⟨_, e1⟩ | ⟨g2, c2, _, e1, _⟩
        · omega
        · exact ⟨g2, c2, e1⟩
      have hown4' : w4.ownsRow B 31 1 v' (L.length + 1) ((L.map fun p => ptr p.1) ++ [ptr w1.heap.size]) := by rw [HL.out]; exact hown4
      have R := memo_add HM.out hBw HB1.out HO1.out hown4' hgrow
      obtain ⟨RM, RK, RB, RS⟩ := R
      have HRM : Hid (Memo B (w4.setCell ⟨D, 4, none⟩ v') D (L ++ [(w1.heap.size, zs)]) v') := RM
      have HRK : Hid (Keep w (w4.setCell ⟨D, 4, none⟩ v')) := RK
      have HRB : Hid (Below B w (w4.setCell ⟨D, 4, none⟩ v')) := RB
      have f4 : w4.cell? ⟨D, 4, none⟩ = some (.slice ai 0 ci) ∧ w4.frozen? ⟨D, 4, none⟩ = false := memo_mid HM.out HB1.out hgrow
      obtain ⟨f4a, f4b⟩ := f4
      obtain ⟨g2, c2, hv2⟩ := hex
      rw [hv2] at HRM HRK HRB
      rw [hv2]
      clear RM RK RB hown4 hown4' hgrow hiff hv2 HO3 HM HB1 HO1 c4
      go_wp2
      go_ret
      exact ⟨_, _, rfl, RS, HRM.out, HRK.out, HRB.out⟩
end Go.Proofs.Qxb6625806a
