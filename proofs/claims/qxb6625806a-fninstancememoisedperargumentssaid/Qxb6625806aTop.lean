/-
  'ZZinstanceOfCodes' over the memo, and what the law's own copies leave.
-/
import Derived.Test.Qxb6625806aCodes
import Derived.Laws.CopyOwn
import Derived.LaidEqlPtr
import Derived.Lib.Builder
import Derived.Deep.DeepCutAuto
namespace Go.Proofs.Qxb6625806a
open Go.RowKit
set_option linter.unusedVariables false

theorem call_new {B D : Nat} {w : World} {L : List (Nat × List Int)} {iv va : Value} {zs : List Int} (M : Memo B w D L iv) (hL : L.length ≤ 1000) (hBw : B ≤ w.heap.size) (hsm : zs.length ≤ 1048576)
    (hA : w.ownsRow B 3 1 va zs.length (zs.map (Value.int .i64))) (hno : ∀ j, j < L.length → ¬ (L.getD j default).2 = zs) :
    Calls Try.prog 5 #[.pointer (some ⟨D, 0, none⟩), va] w fun e w' => ∃ t, e = .returned (.pointer (some ⟨t, 0, none⟩)) ∧ (∃ iv', w.heap.size ≤ t ∧ Memo B w' D (L ++ [(t, zs)]) iv' ∧ Keep w w' ∧ Below B w w') := by
  refine codes_any (S := fun t w' => ∃ iv', w.heap.size ≤ t ∧ Memo B w' D (L ++ [(t, zs)]) iv' ∧ Keep w w' ∧ Below B w w') hBw hsm hA fun v w1 hv hnn hb => ?_
  refine (inst_new (M.below hb) (by omega) (Nat.le_trans hBw hb.size) hv hnn hsm hno).mono fun e w' ⟨t, iv', h1, h2, h3, h4, h5⟩ => ?_
  exact ⟨t, h1, iv', Nat.le_trans hb.size h2, h3, (keep_below hb).trans h4, (hb.mono hBw).trans h5⟩

theorem call_old {B D : Nat} {w : World} {L : List (Nat × List Int)} {iv va : Value} {zs : List Int} (M : Memo B w D L iv) (hL : L.length ≤ 1000) (hBw : B ≤ w.heap.size) (hsm : zs.length ≤ 1048576)
    (hA : w.ownsRow B 3 1 va zs.length (zs.map (Value.int .i64))) (m : Nat) (hm : m < L.length) (hyes : (L.getD m default).2 = zs) (hno : ∀ j, j < m → ¬ (L.getD j default).2 = zs) :
    Calls Try.prog 5 #[.pointer (some ⟨D, 0, none⟩), va] w fun e w' => ∃ t, e = .returned (.pointer (some ⟨t, 0, none⟩)) ∧ (t = (L.getD m default).1 ∧ Memo B w' D L iv ∧ Keep w w' ∧ Below B w w') := by
  refine codes_any (S := fun t w' => t = (L.getD m default).1 ∧ Memo B w' D L iv ∧ Keep w w' ∧ Below B w w') hBw hsm hA fun v w1 hv hnn hb => ?_
  refine (inst_found (M.below hb) (by omega) hv m hm hyes hno).mono fun e w' ⟨h1, q, h2⟩ => ?_
  subst h2
  have hb2 : Below w.heap.size w (w1.drewN q) := below_drewN hb q
  exact ⟨_, h1, rfl, M.below hb2, keep_below hb2, hb2.mono hBw⟩

theorem memo_init {B : Nat} {w : World} (hB : B ≤ w.heap.size) (c0 c1 c2 c3 : Value) : Memo B (w.alloc (.cells #[c0, c1, c2, c3, .slice none 0 0] 30)) w.heap.size [] (.slice none 0 0) :=
  ⟨hB, ⟨c0, c1, c2, c3, heap_alloc_new w _⟩, World.ownsRow_nil _ _ _ _, fun p hp => by cases hp⟩

theorem info30 : (Try.prog.info? 30).map (fun i => decide (i.size ≠ 0)) = some true := by kernel_rfl
theorem info35 : (Try.prog.info? 35).map (fun i => decide (i.size ≠ 0)) = some true := by kernel_rfl

theorem neq24 (a : Addr) (w : World) : (binOp .neq 24 (.pointer (some a)) (.pointer (some a))).run Try.prog w = .ok (.bool false) w := by
  obtain ⟨i, hi, _⟩ := Option.map_eq_some_iff.1 info30
  exact Lib.run_neq_ptr_same w a Try.underlying24 hi

theorem eql31 (a : Addr) (w : World) : (binOp .eql 31 (.pointer (some a)) (.pointer (some a))).run Try.prog w = .ok (.bool true) w := by
  obtain ⟨i, hi, _⟩ := Option.map_eq_some_iff.1 info35
  exact run_eql_ptr_same w a Try.underlying31 hi

theorem eql31_two {B D : Nat} {w : World} {L : List (Nat × List Int)} {iv : Value} (M : Memo B w D L iv) {t1 t2 : Nat} {za zb : List Int} (h1 : (t1, za) ∈ L) (h2 : (t2, zb) ∈ L) :
    (binOp .eql 31 (.pointer (some ⟨t1, 0, none⟩)) (.pointer (some ⟨t2, 0, none⟩))).run Try.prog w = .ok (.bool (decide (t1 = t2))) w := by
  obtain ⟨i, hi, hs⟩ := Option.map_eq_some_iff.1 info35
  by_cases h : t1 = t2
  · subst h
    rw [run_eql_ptr_same w _ Try.underlying31 hi]
    simp
  · obtain ⟨av, hb, _⟩ := M.each _ h1
    obtain ⟨av', hb', _⟩ := M.each _ h2
    rw [run_eql_ptr_other w Try.underlying31 hi (by simpa using hs) (by intro c; exact h (congrArg Addr.block c)) (a := ⟨t1, 0, none⟩) (b := ⟨t2, 0, none⟩) hb hb']
    simp [h]

/-- The second call: whichever way it goes. -/
theorem call_second {B D : Nat} {w : World} {t1 : Nat} {za zb : List Int} {iv vb : Value} (M : Memo B w D [(t1, za)] iv) (hBw : B ≤ w.heap.size) (hsm : zb.length ≤ 1048576)
    (hA : w.ownsRow B 3 1 vb zb.length (zb.map (Value.int .i64))) :
    Calls Try.prog 5 #[.pointer (some ⟨D, 0, none⟩), vb] w fun e w' => ∃ t2, e = .returned (.pointer (some ⟨t2, 0, none⟩)) ∧ ∃ L2 iv', Memo B w' D L2 iv' ∧ L2.getD 0 default = (t1, za) ∧ 0 < L2.length ∧ L2.length ≤ 1000 ∧
      (t1, za) ∈ L2 ∧ (t2, zb) ∈ L2 ∧ (t1 = t2 ↔ za = zb) ∧ Keep w w' ∧ Below B w w' := by
  by_cases hab : za = zb
  · subst hab
    refine (call_old M (by simp) hBw hsm hA 0 (by simp) rfl (fun j hj => absurd hj (Nat.not_lt_zero j))).mono fun e w' ⟨t, h1, h2, h3, h4, h5⟩ => ?_
    have ht : t = t1 := h2
    subst ht
    exact ⟨t, h1, _, _, h3, rfl, by simp, by simp, by simp, by simp, by simp, h4, h5⟩
  · refine (call_new M (by simp) hBw hsm hA (fun j hj => by
      have : j = 0 := by simpa using hj
      subst this
      exact hab)).mono fun e w' ⟨t, h1, iv', h2, h3, h4, h5⟩ => ?_
    have ht1 : t1 < w.heap.size := by
      obtain ⟨av, hb, _⟩ := M.each _ (List.mem_singleton.2 rfl)
      exact lt_of_block hb
    exact ⟨t, h1, _, _, h3, rfl, by simp, by simp, by simp, by simp, ⟨fun h => by omega, fun h => absurd h hab⟩, h4, h5⟩

theorem memo_head {B D : Nat} {w : World} {L : List (Nat × List Int)} {iv : Value} (M : Memo B w D L iv) {t : Nat} {zs : List Int} (hp : (t, zs) ∈ L) : w.cell? ⟨t, 0, none⟩ = some (.pointer (some ⟨D, 0, none⟩)) := by
  obtain ⟨av, hb, _⟩ := M.each _ hp
  have hb' : w.heap[t]? = some (.cells #[ptr D, av] 35 (0, 0)) := hb
  simp [World.cell?, hb', ptr]

theorem own_block {w : World} {B e g n : Nat} {xs : List Value} (h : w.ownsRow B e 1 (.slice (some ⟨g, 0, none⟩) n n) n xs) : w.heap[g]? = some (.cells xs.toArray e (0, 0)) := by
  rcases h.2 with ⟨h', _⟩ | ⟨g', cap', cur, h', _, hg, _, _, hs, ht⟩
  · cases h'
  · simp only [Value.slice.injEq, Option.some.injEq, Addr.mk.injEq, and_true, true_and] at h'
    obtain ⟨rfl, rfl⟩ := h'
    rw [hg]
    have : cur.toList = xs := by
      rw [← ht, List.take_of_length_le (by simp [hs])]
    rw [← this]

theorem own_of_block {w : World} {B e g n : Nat} {xs : List Value} (hg : w.heap[g]? = some (.cells xs.toArray e (0, 0))) (hB : B ≤ g) (hl : xs.length = n) (hn : n ≤ maxLen) : w.ownsRow B e 1 (.slice (some ⟨g, 0, none⟩) n n) n xs :=
  ⟨by omega, .inr ⟨g, n, xs.toArray, rfl, hB, hg, Nat.le_refl _, hn, by simp [hl], by simp [← hl]⟩⟩

theorem splice_all {xs cs : List Value} (h : xs.length = cs.length) : splice xs 0 cs = cs := by
  unfold splice
  simp [← h]
end Go.Proofs.Qxb6625806a
