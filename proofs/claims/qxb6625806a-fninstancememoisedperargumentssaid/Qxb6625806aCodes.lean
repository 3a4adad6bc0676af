/-
  '(*Datatype).Instance' over the memo; 'ZZinstanceOfCodes'.
-/
import Derived.Test.Qxb6625806aLook
namespace Go.Proofs.Qxb6625806a
open Go.RowKit
set_option linter.unusedVariables false

theorem cell_pair {w : World} {b : Nat} {x y : Value} {t : TypeId} (h : w.heap[b]? = some (.cells #[x, y] t (0, 0))) : w.cell? ⟨b, 1, none⟩ = some y := by
  simp [World.cell?, h]

theorem memo_cells {B D : Nat} {w : World} {L : List (Nat × List Int)} {iv : Value} (M : Memo B w D L iv) (h0 : 0 < L.length) :
    ∃ gi ci, ∃ A : Nat → Value, iv = .slice (some ⟨gi, 0, none⟩) L.length ci ∧ w.cell? ⟨D, 4, none⟩ = some iv ∧
      (∀ j, j < L.length → w.cell? ⟨gi, j, none⟩ = some (.pointer (some ⟨(L.getD j default).1, 0, none⟩))) ∧
      (∀ j, j < L.length → w.cell? ⟨(L.getD j default).1, 1, none⟩ = some (A j)) ∧
      (∀ j, j < L.length → w.ownsRow B 40 1 (A j) (L.getD j default).2.length (ifs (L.getD j default).2)) := by
  obtain ⟨gi, ci, hiv, _, hc⟩ := own_at M.own h0
  have hex : ∀ j, ∃ av, j < L.length → w.heap[(L.getD j default).1]? = some (.cells #[ptr D, av] 35 (0, 0)) ∧ w.ownsRow B 40 1 av (L.getD j default).2.length (ifs (L.getD j default).2) := by
    intro j
    by_cases hj : j < L.length
    · obtain ⟨av, h⟩ := M.each (L.getD j default) (by simp [hj])
      exact ⟨av, fun _ => h⟩
    · exact ⟨.nilIface, fun h => absurd h hj⟩
  refine ⟨gi, ci, fun j => Classical.choose (hex j), hiv, ?_, ?_, ?_, ?_⟩
  · obtain ⟨c0, c1, c2, c3, h⟩ := M.dblk
    simp [World.cell?, h]
  · intro j hj
    rw [hc j hj]
    simp [hj, ptr]
  · intro j hj
    exact cell_pair (Classical.choose_spec (hex j) hj).1
  · intro j hj
    exact (Classical.choose_spec (hex j) hj).2

theorem inst_found {B D : Nat} {w : World} {L : List (Nat × List Int)} {iv v : Value} {zs : List Int} (M : Memo B w D L iv) (hL : L.length ≤ 1048576)
    (hv : w.ownsRow B 40 1 v zs.length (ifs zs)) (m : Nat) (hm : m < L.length) (hyes : (L.getD m default).2 = zs) (hno : ∀ j, j < m → ¬ (L.getD j default).2 = zs) :
    Calls Try.prog 8 #[.pointer (some ⟨D, 0, none⟩), v] w fun e w' => e = .returned (.pointer (some ⟨(L.getD m default).1, 0, none⟩)) ∧ ∃ n, w' = w.drewN n := by
  obtain ⟨gi, ci, A, rfl, h4, hT, hA, hZ⟩ := memo_cells M (by omega)
  exact found_core B D gi L.length ci (fun j => (L.getD j default).1) A (fun j => (L.getD j default).2) v zs w (by unfold maxLen; omega) m hm h4 hT hA hZ hv hyes hno

theorem inst_new {B D : Nat} {w : World} {L : List (Nat × List Int)} {iv v : Value} {zs : List Int} (M : Memo B w D L iv) (hL : L.length ≤ 1048576) (hBw : B ≤ w.heap.size)
    (hv : w.ownsRow B 40 1 v zs.length (ifs zs)) (hnn : v ≠ .slice none 0 0) (hsm : zs.length ≤ 1048576) (hno : ∀ j, j < L.length → ¬ (L.getD j default).2 = zs) :
    Calls Try.prog 8 #[.pointer (some ⟨D, 0, none⟩), v] w fun e w' => ∃ t iv', e = .returned (.pointer (some ⟨t, 0, none⟩)) ∧ w.heap.size ≤ t ∧ Memo B w' D (L ++ [(t, zs)]) iv' ∧ Keep w w' ∧ Below B w w' := by
  by_cases h0 : 0 < L.length
  · obtain ⟨gi, ci, A, rfl, h4, hT, hA, hZ⟩ := memo_cells M h0
    exact new_core B D gi L.length ci (fun j => (L.getD j default).1) A (fun j => (L.getD j default).2) L v zs w hL hBw rfl M hsm hnn h4 hT hA hZ hv hno
  · have hl : L.length = 0 := by omega
    obtain ⟨a, c, rfl⟩ := own_shape M.own
    have h4 : w.cell? ⟨D, 4, none⟩ = some (.slice a L.length c) := by
      obtain ⟨c0, c1, c2, c3, h⟩ := M.dblk
      simp [World.cell?, h]
    rw [hl] at h4
    have M' : Memo B w D L (.slice a 0 c) := by rw [hl] at M; exact M
    exact new_core0 B D c a L v zs w hBw hl M' hsm hnn h4 hv

/-- The row of 'args' at the round k. -/
def argRow (zs : List Int) (k : Nat) : List Value := ifs (zs.take k) ++ List.replicate (zs.length - k) .nilIface

theorem argRow_zero (zs : List Int) : argRow zs 0 = List.replicate zs.length .nilIface := by simp [argRow, ifs]
theorem argRow_full (zs : List Int) : argRow zs zs.length = ifs zs := by simp [argRow]
theorem argRow_set (zs : List Int) (k : Nat) (hk : k < zs.length) : (argRow zs k).set k (.iface 38 (.int .i64 (zs.getD k 0))) = argRow zs (k + 1) := by
  unfold argRow ifs
  have h1 : zs.length - k = (zs.length - (k + 1)) + 1 := by omega
  rw [h1, List.replicate_succ, List.set_append_right _ _ (by simp; omega)]
  have h2 : k - (List.map (fun z => Value.iface 38 (Value.int IntKind.i64 z)) (List.take k zs)).length = 0 := by simp; omega
  rw [h2, List.set_cons_zero, List.take_succ_eq_append_getElem hk, List.map_append, List.append_assoc, List.map_cons, List.map_nil, List.singleton_append]
  simp [hk]

set_option maxHeartbeats 800000 in
theorem codes_core (B D g n c : Nat) (zs : List Int) (w : World) (S : Nat → World → Prop) (hBw : B ≤ w.heap.size) (hn : zs.length = n) (hsm : n ≤ 1048576)
    (hrow : ∀ j, j < n → w.cell? ⟨g, j, none⟩ = some (.int .i64 (zs.getD j 0))) (hg : g < w.heap.size)
    (hcall : ∀ v w1, w1.ownsRow B 40 1 v n (ifs zs) → v ≠ .slice none 0 0 → Below w.heap.size w w1 → Calls Try.prog 8 #[.pointer (some ⟨D, 0, none⟩), v] w1 fun e w' => ∃ t, e = .returned (.pointer (some ⟨t, 0, none⟩)) ∧ S t w') :
    Calls Try.prog 5 #[.pointer (some ⟨D, 0, none⟩), .slice (some ⟨g, 0, none⟩) n c] w fun e w' => ∃ t, e = .returned (.pointer (some ⟨t, 0, none⟩)) ∧ S t w' := by
  obtain ⟨i0, hi, hz0, hz1, hz2⟩ := info_parts info40
  have HR : Hid (∀ j, j < n → w.cell? ⟨g, j, none⟩ = some (.int .i64 (zs.getD j 0))) := hrow
  have HC : Hid (∀ v w1, w1.ownsRow B 40 1 v n (ifs zs) → v ≠ .slice none 0 0 → Below w.heap.size w w1 → Calls Try.prog 8 #[.pointer (some ⟨D, 0, none⟩), v] w1 fun e w' => ∃ t, e = .returned (.pointer (some ⟨t, 0, none⟩)) ∧ S t w') := hcall
  have HN : Hid (zs.length = n) := hn
  clear hrow hcall hn
  go_enter Try.func5, Try.ntmps5
  go_wp2_with (at_make; refine wpList_make_full _ rfl _ _ 33 rfl B 40 i0 .nilIface 1 Try.underlying33 hi hz0 hz1 _ _ _ _ n rfl rfl rfl rfl (by rw [hz2]; omega) (by unfold maxLen; omega) hBw ?_; intro w1 hown1 hgrow1)
  have HO : Hid (w1.ownsRow B 40 1 (.slice (some ⟨w.heap.size, 0, none⟩) n n) n (argRow zs 0)) := by
    have : (madeCells (Value.nilIface).cells (n * 1)).toList = argRow zs 0 := by
      rw [argRow_zero, HN.out, Nat.mul_one]; exact toList_madeCells_one _ _
    rw [this] at hown1
    exact hown1
  have HB : Hid (Below w.heap.size w w1) := (Below.refl _ _).grown hgrow1 (Nat.le_refl _) (fun k hk => by cases hk)
  clear hown1 hgrow1
  go_loopw [13] (fun i wr => ∃ k : Nat, k ≤ n ∧ i = .int .i64 k ∧ wr.ownsRow B 40 1 (.slice (some ⟨w.heap.size, 0, none⟩) n n) n (argRow zs k) ∧ Below w.heap.size w wr) (fun i _ => n - (intOf i).toNat)
  case atStart => exact ⟨0, Nat.zero_le _, rfl, HO.out, HB.out⟩
  case round =>
    obtain ⟨k, hk, rfl, hown, hb⟩ := hrel
    have HO' : Hid (wr.ownsRow B 40 1 (.slice (some ⟨w.heap.size, 0, none⟩) n n) n (argRow zs k)) := hown
    have HB' : Hid (Below w.heap.size w wr) := hb
    clear hown hb
    by_cases hlt : k < n
    · have cR : wr.cell? ⟨g, k, none⟩ = some (.int .i64 (zs.getD k 0)) := (HB'.out.cell hg).trans (HR.out k hlt)
      have cW : ∃ u, wr.cell? ⟨w.heap.size, k, none⟩ = some u := by
        have h := HO'.out.cellAt k (by omega)
        have hl : k < (argRow zs k).length := by rw [HO'.out.1]; omega
        exact ⟨_, h.trans (List.getElem?_eq_getElem hl)⟩
      obtain ⟨u, cW⟩ := cW
      have fW := HO'.out.frozenAt k
      have HS : Hid ((wr.setCell ⟨w.heap.size, k, none⟩ (.iface 38 (.int .i64 (zs.getD k 0)))).ownsRow B 40 1 (.slice (some ⟨w.heap.size, 0, none⟩) n n) n (argRow zs (k + 1))) := by
        have := HO'.out.stored k (.iface 38 (.int .i64 (zs.getD k 0)))
        rw [argRow_set zs k (by rw [HN.out]; exact hlt)] at this
        exact this.1
      go_wp2
      go_roundw
      case rel => exact ⟨k + 1, by omega, by go_num, HS.out, HB'.out.setCell (Nat.le_refl _) _⟩
      case measure => simp [intOf]; omega
    · have hkk : k = n := by omega
      subst hkk
      have HK := HC.out (.slice (some ⟨w.heap.size, 0, none⟩) k k) wr (by have := HO'.out; rw [← HN.out, argRow_full, HN.out] at this; exact this) (by simp) HB'.out
      clear HO'
      have HK' : Hid (Calls Try.prog 8 #[.pointer (some ⟨D, 0, none⟩), .slice (some ⟨w.heap.size, 0, none⟩) k k] wr fun e w' => ∃ t, e = .returned (.pointer (some ⟨t, 0, none⟩)) ∧ S t w') := HK
      clear HK
      go_wp2_with fail
      refine (HK'.out).mono ?_
      rintro e w' ⟨t, rfl, hs⟩
      go_wp2
      go_ret
      exact ⟨t, rfl, hs⟩

set_option maxHeartbeats 800000 in
theorem codes_core0 (B D c : Nat) (a : Option Addr) (w : World) (S : Nat → World → Prop) (hBw : B ≤ w.heap.size)
    (hcall : ∀ v w1, w1.ownsRow B 40 1 v 0 (ifs []) → v ≠ .slice none 0 0 → Below w.heap.size w w1 → Calls Try.prog 8 #[.pointer (some ⟨D, 0, none⟩), v] w1 fun e w' => ∃ t, e = .returned (.pointer (some ⟨t, 0, none⟩)) ∧ S t w') :
    Calls Try.prog 5 #[.pointer (some ⟨D, 0, none⟩), .slice a 0 c] w fun e w' => ∃ t, e = .returned (.pointer (some ⟨t, 0, none⟩)) ∧ S t w' := by
  obtain ⟨i0, hi, hz0, hz1, hz2⟩ := info_parts info40
  have HC : Hid (∀ v w1, w1.ownsRow B 40 1 v 0 (ifs []) → v ≠ .slice none 0 0 → Below w.heap.size w w1 → Calls Try.prog 8 #[.pointer (some ⟨D, 0, none⟩), v] w1 fun e w' => ∃ t, e = .returned (.pointer (some ⟨t, 0, none⟩)) ∧ S t w') := hcall
  clear hcall
  go_enter Try.func5, Try.ntmps5
  go_wp2_with (at_make; refine wpList_make_full _ rfl _ _ 33 rfl B 40 i0 .nilIface 1 Try.underlying33 hi hz0 hz1 _ _ _ _ 0 rfl rfl rfl rfl (by omega) (by unfold maxLen; omega) hBw ?_; intro w1 hown1 hgrow1)
  have HO : Hid (w1.ownsRow B 40 1 (.slice (some ⟨w.heap.size, 0, none⟩) 0 0) 0 (ifs [])) := by
    have : (madeCells (Value.nilIface).cells (0 * 1)).toList = ifs [] := by
      rw [Nat.zero_mul]; exact toList_madeCells_one _ _
    rw [this] at hown1
    exact hown1
  have HB : Hid (Below w.heap.size w w1) := (Below.refl _ _).grown hgrow1 (Nat.le_refl _) (fun k hk => by cases hk)
  clear hown1 hgrow1
  go_loopw [13] (fun i wr => i = .int .i64 0 ∧ wr = w1) (fun _ _ => 0)
  case atStart => exact ⟨rfl, rfl⟩
  case round =>
    obtain ⟨rfl, rfl⟩ := hrel
    have HK' : Hid (Calls Try.prog 8 #[.pointer (some ⟨D, 0, none⟩), .slice (some ⟨w.heap.size, 0, none⟩) 0 0] wr fun e w' => ∃ t, e = .returned (.pointer (some ⟨t, 0, none⟩)) ∧ S t w') := HC.out _ wr HO.out (by simp) HB.out
    go_wp2_with fail
    refine (HK'.out).mono ?_
    rintro e w' ⟨t, rfl, hs⟩
    go_wp2
    go_ret
    exact ⟨t, rfl, hs⟩

theorem codes_any {B D : Nat} {va : Value} {zs : List Int} {w : World} {S : Nat → World → Prop} (hBw : B ≤ w.heap.size) (hsm : zs.length ≤ 1048576)
    (hA : w.ownsRow B 3 1 va zs.length (zs.map (Value.int .i64)))
    (hcall : ∀ v w1, w1.ownsRow B 40 1 v zs.length (ifs zs) → v ≠ .slice none 0 0 → Below w.heap.size w w1 → Calls Try.prog 8 #[.pointer (some ⟨D, 0, none⟩), v] w1 fun e w' => ∃ t, e = .returned (.pointer (some ⟨t, 0, none⟩)) ∧ S t w') :
    Calls Try.prog 5 #[.pointer (some ⟨D, 0, none⟩), va] w fun e w' => ∃ t, e = .returned (.pointer (some ⟨t, 0, none⟩)) ∧ S t w' := by
  by_cases h0 : 0 < zs.length
  · obtain ⟨g, c, rfl, _, cA⟩ := own_at hA h0
    have hg := (hA.lt g rfl).2
    exact codes_core B D g zs.length c zs w S hBw rfl hsm (fun j hj => (cA j hj).trans (map_at hj)) hg hcall
  · obtain ⟨a, c, rfl⟩ := own_shape hA
    obtain rfl : zs = [] := List.eq_nil_of_length_eq_zero (by omega)
    exact codes_core0 B D c a w S hBw hcall

/-- The row of 'out' at the round k. -/
def outRow (zs : List Int) (k : Nat) : List Value := (zs.take k).map (Value.int .i64) ++ List.replicate (zs.length - k) (.int .i64 0)

theorem outRow_zero (zs : List Int) : outRow zs 0 = List.replicate zs.length (.int .i64 0) := by simp [outRow]
theorem outRow_full (zs : List Int) : outRow zs zs.length = zs.map (Value.int .i64) := by simp [outRow]
theorem outRow_set (zs : List Int) (k : Nat) (hk : k < zs.length) : (outRow zs k).set k (.int .i64 (zs.getD k 0)) = outRow zs (k + 1) := by
  unfold outRow
  have h1 : zs.length - k = (zs.length - (k + 1)) + 1 := by omega
  rw [h1, List.replicate_succ, List.set_append_right _ _ (by simp; omega)]
  have h2 : k - (List.map (Value.int IntKind.i64) (List.take k zs)).length = 0 := by simp; omega
  rw [h2, List.set_cons_zero, List.take_succ_eq_append_getElem hk, List.map_append, List.append_assoc, List.map_cons, List.map_nil, List.singleton_append]
  simp [hk]

/-- 'b, ok := a.(Basic)', a holding a Basic. -/
theorem assert_basic (z : Int) (w : World) : (Instr.typeAssert (.iface 38 (.int .i64 z)) 40 38 true).run Try.prog w = .ok (.tuple #[.int .i64 z, .bool true]) w := by
  simp [Instr.typeAssert, run_underlying Try.underlying38]

set_option maxHeartbeats 800000 in
theorem arg_core (B T g n c : Nat) (zs : List Int) (w : World) (hBw : B ≤ w.heap.size) (hn : zs.length = n) (hsm : n ≤ 1048576)
    (h1 : w.cell? ⟨T, 1, none⟩ = some (.slice (some ⟨g, 0, none⟩) n c)) (hT : T < w.heap.size)
    (hrow : ∀ j, j < n → w.cell? ⟨g, j, none⟩ = some (.iface 38 (.int .i64 (zs.getD j 0)))) (hg : g < w.heap.size) :
    Calls Try.prog 6 #[.pointer (some ⟨T, 0, none⟩)] w fun e w' => ∃ v, e = .returned (.tuple #[v, .bool true]) ∧ w'.ownsRow B 3 1 v n (zs.map (Value.int .i64)) ∧ Below w.heap.size w w' := by
  obtain ⟨i0, hi, hz0, hz1, hz2⟩ := info_parts info3
  have HR : Hid (∀ j, j < n → w.cell? ⟨g, j, none⟩ = some (.iface 38 (.int .i64 (zs.getD j 0)))) := hrow
  have HN : Hid (zs.length = n) := hn
  clear hrow hn
  have hta := assert_basic
  go_enter Try.func6, Try.ntmps6
  go_wp2_with (at_make; refine wpList_make_full _ rfl _ _ 22 rfl B 3 i0 (.int .i64 0) 1 Try.underlying22 hi hz0 hz1 _ _ _ _ n rfl rfl rfl rfl (by rw [hz2]; omega) (by unfold maxLen; omega) hBw ?_; intro w1 hown1 hgrow1; have h1' : w1.cell? ⟨T, 1, none⟩ = some (.slice (some ⟨g, 0, none⟩) n c) := hgrow1.cell h1 (by simp))
  have HO : Hid (w1.ownsRow B 3 1 (.slice (some ⟨w.heap.size, 0, none⟩) n n) n (outRow zs 0)) := by
    have : (madeCells (Value.int .i64 0).cells (n * 1)).toList = outRow zs 0 := by
      rw [outRow_zero, HN.out, Nat.mul_one]; exact toList_madeCells_one _ _
    rw [this] at hown1
    exact hown1
  have HB : Hid (Below w.heap.size w w1) := (Below.refl _ _).grown hgrow1 (Nat.le_refl _) (fun k hk => by cases hk)
  clear hown1 hgrow1
  go_loopw [20] (fun i wr => ∃ k : Nat, k ≤ n ∧ i = .int .i64 k ∧ wr.ownsRow B 3 1 (.slice (some ⟨w.heap.size, 0, none⟩) n n) n (outRow zs k) ∧ Below w.heap.size w wr) (fun i _ => n - (intOf i).toNat)
  case atStart => exact ⟨0, Nat.zero_le _, rfl, HO.out, HB.out⟩
  case round =>
    obtain ⟨k, hk, rfl, hown, hb⟩ := hrel
    have HO' : Hid (wr.ownsRow B 3 1 (.slice (some ⟨w.heap.size, 0, none⟩) n n) n (outRow zs k)) := hown
    have HB' : Hid (Below w.heap.size w wr) := hb
    clear hown hb
    by_cases hlt : k < n
    · have cR : wr.cell? ⟨g, k, none⟩ = some (.iface 38 (.int .i64 (zs.getD k 0))) := (HB'.out.cell hg).trans (HR.out k hlt)
      have cW : ∃ u, wr.cell? ⟨w.heap.size, k, none⟩ = some u := by
        have h := HO'.out.cellAt k (by omega)
        have hl : k < (outRow zs k).length := by rw [HO'.out.1]; omega
        exact ⟨_, h.trans (List.getElem?_eq_getElem hl)⟩
      obtain ⟨u, cW⟩ := cW
      have fW := HO'.out.frozenAt k
      have HS : Hid ((wr.setCell ⟨w.heap.size, k, none⟩ (.int .i64 (zs.getD k 0))).ownsRow B 3 1 (.slice (some ⟨w.heap.size, 0, none⟩) n n) n (outRow zs (k + 1))) := by
        have := HO'.out.stored k (.int .i64 (zs.getD k 0))
        rw [outRow_set zs k (by rw [HN.out]; exact hlt)] at this
        exact this.1
      go_wp2
      go_roundw
      case rel => exact ⟨k + 1, by omega, by go_num, HS.out, HB'.out.setCell (Nat.le_refl _) _⟩
      case measure => simp [intOf]; omega
    · have hkk : k = n := by omega
      subst hkk
      have HF : Hid (wr.ownsRow B 3 1 (.slice (some ⟨w.heap.size, 0, none⟩) k k) k (zs.map (Value.int .i64))) := by
        have := HO'.out; rw [← HN.out, outRow_full, HN.out] at this; exact this
      clear HO'
      go_wp2
      go_ret2
      exact ⟨_, rfl, HF.out, HB'.out⟩

set_option maxHeartbeats 800000 in
theorem arg_core0 (B T c : Nat) (a : Option Addr) (w : World) (hBw : B ≤ w.heap.size)
    (h1 : w.cell? ⟨T, 1, none⟩ = some (.slice a 0 c)) (hT : T < w.heap.size) :
    Calls Try.prog 6 #[.pointer (some ⟨T, 0, none⟩)] w fun e w' => ∃ v, e = .returned (.tuple #[v, .bool true]) ∧ w'.ownsRow B 3 1 v 0 [] ∧ Below w.heap.size w w' := by
  obtain ⟨i0, hi, hz0, hz1, hz2⟩ := info_parts info3
  go_enter Try.func6, Try.ntmps6
  go_wp2_with (at_make; refine wpList_make_full _ rfl _ _ 22 rfl B 3 i0 (.int .i64 0) 1 Try.underlying22 hi hz0 hz1 _ _ _ _ 0 rfl rfl rfl rfl (by omega) (by unfold maxLen; omega) hBw ?_; intro w1 hown1 hgrow1; have h1' : w1.cell? ⟨T, 1, none⟩ = some (.slice a 0 c) := hgrow1.cell h1 (by simp))
  have HO : Hid (w1.ownsRow B 3 1 (.slice (some ⟨w.heap.size, 0, none⟩) 0 0) 0 []) := by
    have : (madeCells (Value.int .i64 0).cells (0 * 1)).toList = [] := by
      rw [Nat.zero_mul]; exact toList_madeCells_one _ _
    rw [this] at hown1
    exact hown1
  have HB : Hid (Below w.heap.size w w1) := (Below.refl _ _).grown hgrow1 (Nat.le_refl _) (fun k hk => by cases hk)
  clear hown1 hgrow1
  go_loopw [20] (fun i wr => i = .int .i64 0 ∧ wr = w1) (fun _ _ => 0)
  case atStart => exact ⟨rfl, rfl⟩
  case round =>
    obtain ⟨rfl, rfl⟩ := hrel
    go_wp2
    go_ret2
    exact ⟨_, rfl, HO.out, HB.out⟩

theorem arg_any {B D : Nat} {w : World} {L : List (Nat × List Int)} {iv : Value} (M : Memo B w D L iv) (hBw : B ≤ w.heap.size) {t : Nat} {zs : List Int} (hp : (t, zs) ∈ L) (hsm : zs.length ≤ 1048576) :
    Calls Try.prog 6 #[.pointer (some ⟨t, 0, none⟩)] w fun e w' => ∃ v, e = .returned (.tuple #[v, .bool true]) ∧ w'.ownsRow B 3 1 v zs.length (zs.map (Value.int .i64)) ∧ Below w.heap.size w w' := by
  obtain ⟨av, hb, ho⟩ := M.each _ hp
  have hT := lt_of_block hb
  have h1 := cell_pair hb
  by_cases h0 : 0 < zs.length
  · obtain ⟨g, c, rfl, _, cA⟩ := own_at ho h0
    exact arg_core B t g zs.length c zs w hBw rfl hsm h1 hT (fun j hj => (cA j hj).trans (map_at hj)) (ho.lt g rfl).2
  · obtain ⟨a, c, rfl⟩ := own_shape ho
    obtain rfl : zs = [] := List.eq_nil_of_length_eq_zero (by omega)
    exact arg_core0 B t c a w hBw h1 hT
end Go.Proofs.Qxb6625806a
