/-
  THE WALK OF 'FnLastOfHintNeverChangesAnswer'.
-/
import Derived.Test.Qxb6626086aGuard
import Derived.Laws.CopyOwn
import Derived.LaidEqlPtr
import Derived.Deep.DeepCutAuto
namespace Go.Proofs.Qxb6626086a
open Go.RowKit
set_option linter.unusedVariables false

/-- How often s stands among the first k places. -/
def cntOf (I : Nat → ByteArray) (s : ByteArray) : Nat → Nat
  | 0 => 0
  | k + 1 => cntOf I s k + if I k = s then 1 else 0

theorem cnt_le (I : Nat → ByteArray) (s : ByteArray) : ∀ k, cntOf I s k ≤ k
  | 0 => Nat.le_refl _
  | k + 1 => by unfold cntOf; have := cnt_le I s k; split <;> omega

theorem cnt_pos {I : Nat → ByteArray} {s : ByteArray} : ∀ {k h : Nat}, h < k → I h = s → 1 ≤ cntOf I s k
  | 0, _, h, _ => by omega
  | k + 1, h, hk, he => by
    unfold cntOf
    by_cases e : h = k
    · subst e; rw [if_pos he]; omega
    · have := cnt_pos (k := k) (h := h) (by omega) he
      omega

theorem last_only {I : Nat → ByteArray} {s : ByteArray} : ∀ {k h : Nat}, cntOf I s k ≤ 1 → h < k → I h = s → lastIdx I s k = some h
  | 0, _, _, h, _ => by omega
  | k + 1, h, hc, hk, he => by
    unfold cntOf at hc
    unfold lastIdx
    by_cases ek : I k = s
    · rw [if_pos ek] at hc ⊢
      by_cases e : h = k
      · rw [e]
      · have := cnt_pos (k := k) (h := h) (by omega) he
        omega
    · rw [if_neg ek] at hc ⊢
      have hk' : h ≠ k := by rintro rfl; exact ek he
      exact last_only (k := k) (by omega) (by omega) he

theorem of_last {I : Nat → ByteArray} {s : ByteArray} {n : Nat} (hc : cntOf I s n ≤ 1) (h : Int) : ofIdx I n s h = lastIdx I s n := by
  unfold ofIdx
  by_cases c : 0 ≤ h ∧ h < n ∧ I h.toNat = s
  · rw [if_pos c, last_only hc (by omega) c.2.2]
  · rw [if_neg c]

/-- The variable 'at'. -/
def atOf (o : Option Nat) : Int := match o with | some i => i | Option.none => -1

theorem info9 : (Try.prog.info? 9).map (fun i => (i.zero, i.size, i.bytes)) = some (some (.string ⟨#[]⟩), 1, 16) := by kernel_rfl
theorem info48s : (Try.prog.info? 48).map (fun i => decide (i.size ≠ 0)) = some true := by kernel_rfl

theorem eql31 (a : Addr) (w : World) : (binOp .eql 31 (.pointer (some a)) (.pointer (some a))).run Try.prog w = .ok (.bool true) w := by
  obtain ⟨i, hi, _⟩ := Option.map_eq_some_iff.1 info48s
  exact run_eql_ptr_same w a Try.underlying31 hi

theorem strs_one (ids : List ByteArray) : ∀ u ∈ strs ids, u.oneCell' = true := by
  intro u hu
  obtain ⟨z, _, rfl⟩ := List.mem_map.1 hu
  rfl
theorem strs_len (ids : List ByteArray) : (strs ids).length = ids.length := List.length_map ..

theorem own_block {w : World} {B e g n : Nat} {xs : List Value} (h : w.ownsRow B e 1 (.slice (some ⟨g, 0, Option.none⟩) n n) n xs) : w.heap[g]? = some (.cells xs.toArray e (0, 0)) := by
  rcases h.2 with ⟨h', _⟩ | ⟨g', cap', cur, h', _, hg, _, _, hs, ht⟩
  · cases h'
  · simp only [Value.slice.injEq, Option.some.injEq, Addr.mk.injEq, and_true, true_and] at h'
    obtain ⟨rfl, rfl⟩ := h'
    rw [hg]
    have : cur.toList = xs := by
      rw [← ht, List.take_of_length_le (by simp [hs])]
    rw [← this]

theorem own_of_block {w : World} {B e g n : Nat} {xs : List Value} (hg : w.heap[g]? = some (.cells xs.toArray e (0, 0))) (hB : B ≤ g) (hl : xs.length = n) (hn : n ≤ maxLen) : w.ownsRow B e 1 (.slice (some ⟨g, 0, Option.none⟩) n n) n xs :=
  ⟨by omega, .inr ⟨g, n, xs.toArray, rfl, hB, hg, Nat.le_refl _, hn, by simp [hl], by simp [← hl]⟩⟩

theorem splice_all {xs cs : List Value} (h : xs.length = cs.length) : splice xs 0 cs = cs := by
  unfold splice
  simp [← h]

theorem own_copied {w : World} {B g n : Nat} {cs : List Value} (hg : w.heap[g]? = some (.cells (splice (madeCells #[Value.string ⟨#[]⟩] n).toList 0 cs).toArray 9 (0, 0))) (hB : B ≤ g) (hl : cs.length = n) (hn : n ≤ maxLen) :
    w.ownsRow B 9 1 (.slice (some ⟨g, 0, Option.none⟩) n n) n cs := by
  rw [splice_all (by rw [toList_madeCells_one]; simp [hl])] at hg
  exact own_of_block hg hB hl hn

theorem Climb.later {w w' : World} {NC S n : Nat} {I : Nat → ByteArray} {mv : Value} (h : Climb w NC S n I mv) (hg : w.grownBy w' Option.none) : Climb w' NC S n I mv := by
  obtain ⟨hs, ⟨cs, hb, h0, h12⟩, hm⟩ := h
  refine ⟨hs.kept (hg.block S (sets_lt hs) (by simp)), ⟨cs, (hg.block NC (lt_of_block hb) (by simp)).trans hb, h0, h12⟩, ?_⟩
  rcases hm with h | ⟨M, D, h1, h2, h3⟩
  · exact .inl h
  · exact .inr ⟨M, D, h1, h2.kept hg (by simp), h3⟩

theorem Climb.lt {w : World} {NC S n : Nat} {I : Nat → ByteArray} {mv : Value} (h : Climb w NC S n I mv) : NC < w.heap.size := by
  obtain ⟨cs, hb, _⟩ := h.nc
  exact lt_of_block hb

theorem own_reads {w : World} {B n c : Nat} {a : Option Addr} {ids : List ByteArray} {I : Nat → ByteArray} (h : w.ownsRow B 9 1 (.slice a n c) n (strs ids)) (hl : ids.length = n) (hI : I = fun j => ids.getD j ByteArray.empty) :
    ∀ k, k < n → ∃ g, a = some ⟨g, 0, Option.none⟩ ∧ w.cell? ⟨g, k, Option.none⟩ = some (.string (I k)) := by
  intro k hk
  obtain ⟨g, c', e, _, _, hc⟩ := own_at h (by omega)
  simp only [Value.slice.injEq, true_and] at e
  obtain ⟨rfl, rfl⟩ := e
  refine ⟨g, rfl, ?_⟩
  rw [hc k hk, strs_at (by omega), hI]

theorem sizes_of {ids : List ByteArray} {I : Nat → ByteArray} {n : Nat} (h : ∀ s ∈ ids, s.size ≤ maxLen) (hl : ids.length = n) (hI : I = fun j => ids.getD j ByteArray.empty) : ∀ k, k < n → (I k).size ≤ maxLen := by
  intro k hk
  rw [hI]
  have hk' : k < ids.length := by omega
  have : ids.getD k ByteArray.empty = ids[k] := by simp [hk']
  show (ids.getD k ByteArray.empty).size ≤ maxLen
  rw [this]
  exact h _ (List.getElem_mem hk')

set_option maxRecDepth 100000 in
set_option maxHeartbeats 2000000 in
theorem hint_main (a0 : Option Addr) (n c0 : Nat) (ids : List ByteArray) (id : ByteArray) (i j : Int) (w : World) (hl : ids.length = n) (hs : SrcS w a0 ids) (hsz : ∀ s ∈ ids, s.size ≤ maxLen) (hid : id.size ≤ maxLen) (hm : n ≤ maxLen)
    (hn : n ≤ 65536) (hi : id.size ≤ 1048576) (hnil : a0.isSome = false → a0 = Option.none ∧ n = 0 ∧ c0 = 0) :
    Calls Try.prog 3 #[.slice a0 n c0, .string id, .int .i64 i, .int .i64 j] w fun e w' => e = .returned (.bool true) ∧ Below w.heap.size w w' := by
  obtain ⟨i0, hi9, hz0, hz1, hz2⟩ := info_parts info9
  have q22 : ∀ (w : World) (a : Option Addr) (n c n' c' : Nat), (binOp .neq 22 (.slice a n c) (.slice Option.none n' c')).run Try.prog w = .ok (.bool a.isSome) w := fun w a n c n' c' => by rw [run_neq_slice_nil_any w _ _ a n c n' c' Try.underlying22]; cases a <;> rfl
  have HL : Hid (ids.length = n) := hl
  have HS : Hid (SrcS w a0 ids) := hs
  have HZ : Hid (∀ s ∈ ids, s.size ≤ maxLen) := hsz
  have HNil : Hid (a0.isSome = false → a0 = Option.none ∧ n = 0 ∧ c0 = 0) := hnil
  clear hl hs hsz hnil
  go_enter Try.func3, Try.ntmps3
  go_wp2_with fail
  refine (guard5_any HL.out hm HS.out).mono ?_
  rintro e w' ⟨⟨gv, rfl⟩, rfl⟩
  cases gv with
  | false =>
    go_wp2
    go_ret
    exact ⟨rfl, Below.refl _ _⟩
  | true =>
    go_upto_if 35 with (fail)
    go_cut [0] (fun va wc => wc.ownsRow w.heap.size 9 1 va n (strs ids) ∧ Below w.heap.size w wc)
    case first =>
      cases hnl : a0.isSome with
      | false =>
        go_wp2
        go_meet
        case rel =>
          obtain ⟨e1, e2, e3⟩ := HNil.out hnl
          subst e1 e2 e3
          have : ids = [] := List.eq_nil_of_length_eq_zero HL.out
          subst this
          exact ⟨World.ownsRow_nil _ _ _ _, Below.refl _ _⟩
      | true =>
        go_wp2_with (first
          | (at_make; refine wpList_make_full _ rfl _ _ 22 rfl w.heap.size 9 i0 (.string ⟨#[]⟩) 1 Try.underlying22 hi9 hz0 hz1 _ _ _ _ n rfl rfl rfl rfl (by rw [hz2]; omega) hm (Nat.le_refl _) ?_; intro x1 hown1 hgrow1)
          | (refine wpList_copy_splice rfl (.tmp 39) (.tmp 40) 22 22 rfl 9 Try.underlying22 (by simp [hi9, hz1]) _ _ _ _ _ _ rfl rfl _ 0 _ 9 (own_block hown1) (strs ids) ?_ ?_ ?_ (strs_one _) w.heap.size w ((Below.refl _ _).grown hgrow1 (Nat.le_refl _) (fun k hk => by cases hk)) (Nat.le_refl _) ?_))
        · rw [strs_len, HL.out]; exact (Nat.min_self _).symm
        · intro hp
          cases ha : a0 with
          | none => rw [ha] at hnl; cases hnl
          | some ad => exact ⟨ad, rfl, fun j v hj => hgrow1.cell (HS.out.2 ad j v ha hj) (by simp)⟩
        · rw [strs_len, HL.out, Nat.zero_add, Nat.mul_one]; exact Nat.le_of_eq (by rw [show (Value.string ⟨#[]⟩).cells = #[Value.string ⟨#[]⟩] from rfl, toList_madeCells_one]; simp)
        · intro x2 hx2 hbx2
          have HX := own_copied (B := w.heap.size) hx2.out (Nat.le_refl _) (by rw [strs_len, HL.out]) hm
          clear hx2 hown1 hgrow1
          have HX' : Hid (x2.ownsRow w.heap.size 9 1 (.slice (some ⟨w.heap.size, 0, Option.none⟩) n n) n (strs ids)) := HX
          clear HX
          go_wp2
          go_meet
          case rel => exact ⟨HX'.out, hbx2⟩
    case rest =>
      obtain ⟨hv0, hbc⟩ := hcut
      obtain ⟨a', c', hu⟩ := own_shape hv0
      subst hu
      obtain ⟨I, hI⟩ : ∃ I : Nat → ByteArray, I = fun j => ids.getD j ByteArray.empty := ⟨_, rfl⟩
      have HA : Hid (∀ k, k < n → ∃ g, a' = some ⟨g, 0, Option.none⟩ ∧ wc.cell? ⟨g, k, Option.none⟩ = some (.string (I k))) := own_reads hv0 HL.out hI
      have HO : Hid (wc.ownsRow w.heap.size 9 1 (.slice a' n c') n (strs ids)) := hv0
      have HB : Hid (Below w.heap.size w wc) := hbc
      have HIs : Hid (∀ k, k < n → (I k).size ≤ maxLen) := sizes_of HZ.out HL.out hI
      have HIe : Hid (I = fun j => ids.getD j ByteArray.empty) := hI
      clear hv0 hbc hI hz0 hz1 hz2 hi9 q22 HS HNil HZ
      go_wp2
      go_loop [10, 11] (fun z x => ∃ (t : Int) (k : Nat), k ≤ n ∧ x = .int .i64 k ∧ z = .int .i64 t) (fun _ x => n - (intOf x).toNat)
      case atStart => exact ⟨_, 0, Nat.zero_le _, rfl, rfl⟩
      case round =>
        obtain ⟨t, k, hk, rfl, rfl⟩ := hrel
        by_cases hlt : k < n
        · obtain ⟨g, hg, hc⟩ := HA.out k hlt
          subst hg
          go_wp2
          · go_ret
            exact ⟨rfl, HB.out⟩
          · go_round
            case rel => exact ⟨_, k + 1, by omega, by go_num, rfl⟩
            case measure => simp [intOf]; omega
        · go_wp2
          clear hk hlt
          go_loop [12, 13, 14] (fun p q x => ∃ m : Nat, m ≤ n ∧ x = .int .i64 m ∧ q = .int .i64 (cntOf I id m : Int) ∧ p = .int .i64 (atOf (lastIdx I id m))) (fun _ _ x => n - (intOf x).toNat)
          case atStart => exact ⟨0, Nat.zero_le _, rfl, rfl, rfl⟩
          case round =>
            obtain ⟨m, hk, rfl, rfl, rfl⟩ := hrel
            have hcl := cnt_le I id m
            by_cases hlt : m < n
            · obtain ⟨g, hg, hc⟩ := HA.out m hlt
              subst hg
              by_cases he : I m = id
              · have heq : ((I m).toList == id.toList) = true := by rw [texts_eq]; simp [he]
                have R1 : Hid ((cntOf I id m : Int) + 1 = (cntOf I id (m + 1) : Int)) := by show _ = _; simp [cntOf, he]
                have R2 : Hid ((m : Int) = atOf (lastIdx I id (m + 1))) := by show _ = _; simp [lastIdx, he, atOf]
                clear he
                go_wp2
                go_round
                case rel => exact ⟨m + 1, by omega, by go_num, by rw [R1.out], by rw [R2.out]⟩
                case measure => simp [intOf]; omega
              · have heq : ((I m).toList == id.toList) = false := by rw [texts_eq]; simp [he]
                have R1 : Hid (cntOf I id m = cntOf I id (m + 1)) := by show _ = _; simp [cntOf, he]
                have R2 : Hid (lastIdx I id m = lastIdx I id (m + 1)) := by show _ = _; simp [lastIdx, he]
                clear he
                go_wp2
                go_round
                case rel => exact ⟨m + 1, by omega, by go_num, by rw [R1.out], by rw [R2.out]⟩
                case measure => simp [intOf]; omega
            · have hmn : m = n := by omega
              subst hmn
              by_cases hc1 : cntOf I id m ≤ 1
              · have HC1 : Hid (cntOf I id m ≤ 1) := hc1
                have HO' : Hid (wc.ownsRow w.heap.size 9 1 (.slice a' m c') ids.length (strs ids)) := by show World.ownsRow _ _ _ _ _ _ _; rw [HL.out]; exact HO.out
                have hcz : (cntOf I id m : Int) ≤ 1 := by omega
                go_wp2_with fail
                refine (new_any HB.out.size (by rw [HL.out]; exact hn) HO'.out).mono ?_
                rintro e v1 ⟨NC, S, rfl, hC, hb1, hNC⟩
                rw [HL.out, ← HIe.out] at hC
                have HCl : Hid (Climb v1 NC S m I (.map Option.none)) := hC
                have HB1 : Hid (Below w.heap.size w v1) := HB.out.trans (hb1.mono HB.out.size)
                have HNC : Hid (w.heap.size ≤ NC) := Nat.le_trans HB.out.size hNC
                have e31 := eql31
                clear hC hb1 hNC hcl hc1 HA HO HO' hk hlt
                have OF1 : Hid (ofIdx I m id i = lastIdx I id m) := of_last HC1.out i
                have OF2 : Hid (ofIdx I m id j = lastIdx I id m) := of_last HC1.out j
                cases hli : lastIdx I id m with
                | none =>
                  rw [hli] at OF1 OF2
                  have hat : atOf Option.none = -1 := rfl
                  clear hli
                  go_wp2_with fail
                  refine (zlast_any hid hn HIs.out (HCl.out.later (World.grownBy_alloc v1 _ _)) (World.cell?_alloc_mark v1 _ 30 (0, 0) 0)).mono ?_
                  rintro e v2 ⟨rfl, ⟨mv2, hC2⟩, hg2⟩
                  rw [OF1.out]
                  have HC2 : Hid (Climb v2 NC S m I mv2) := hC2
                  have HCc : Hid (v2.cell? ⟨v1.heap.size, 0, Option.none⟩ = some (.string id)) := hg2.cell (World.cell?_alloc_mark v1 _ 30 (0, 0) 0) (by have := HCl.out.lt; simp; omega)
                  have HB2 : Hid (Below w.heap.size w v2) := (HB1.out.alloc HB1.out.size _).grown hg2 (Nat.le_trans HB1.out.size (by simp)) (fun k hk => by cases hk; exact HNC.out)
                  clear hC2 hg2
                  unfold ptrOf
                  go_wp2_with fail
                  refine (zlast_any hid hn HIs.out HC2.out HCc.out).mono ?_
                  rintro e v3 ⟨rfl, ⟨mv3, hC3⟩, hg3⟩
                  rw [OF2.out]
                  have HB3 : Hid (Below w.heap.size w v3) := HB2.out.grown hg3 HB2.out.size (fun k hk => by cases hk; exact HNC.out)
                  clear hC3 hg3
                  unfold ptrOf
                  go_wp2
                  go_ret
                  exact ⟨rfl, HB3.out⟩
                | some p =>
                  rw [hli] at OF1 OF2
                  have hat : atOf (some p) = (p : Int) := rfl
                  have hpm : p < m := (lastIdx_lt hli).1
                  clear hli
                  go_wp2_with fail
                  refine (zlast_any hid hn HIs.out (HCl.out.later (World.grownBy_alloc v1 _ _)) (World.cell?_alloc_mark v1 _ 30 (0, 0) 0)).mono ?_
                  rintro e v2 ⟨rfl, ⟨mv2, hC2⟩, hg2⟩
                  rw [OF1.out]
                  have HC2 : Hid (Climb v2 NC S m I mv2) := hC2
                  have HCc : Hid (v2.cell? ⟨v1.heap.size, 0, Option.none⟩ = some (.string id)) := hg2.cell (World.cell?_alloc_mark v1 _ 30 (0, 0) 0) (by have := HCl.out.lt; simp; omega)
                  have HB2 : Hid (Below w.heap.size w v2) := (HB1.out.alloc HB1.out.size _).grown hg2 (Nat.le_trans HB1.out.size (by simp)) (fun k hk => by cases hk; exact HNC.out)
                  clear hC2 hg2
                  unfold ptrOf
                  go_wp2_with fail
                  refine (zlast_any hid hn HIs.out HC2.out HCc.out).mono ?_
                  rintro e v3 ⟨rfl, ⟨mv3, hC3⟩, hg3⟩
                  rw [OF2.out]
                  have HC3 : Hid (Climb v3 NC S m I mv3) := hC3
                  have HB3 : Hid (Below w.heap.size w v3) := HB2.out.grown hg3 HB2.out.size (fun k hk => by cases hk; exact HNC.out)
                  clear hC3 hg3
                  unfold ptrOf
                  go_wp2_with fail
                  refine (setAt_any hn HC3.out hpm).mono ?_
                  rintro e w' ⟨rfl, rfl⟩
                  go_wp2
                  go_ret
                  exact ⟨rfl, HB3.out⟩
              · go_wp2
                go_ret
                exact ⟨rfl, HB.out⟩
end Go.Proofs.Qxb6626086a
