/-
  THE PROOF OF 'Rows.FnInstanceMemoisedPerArgumentsSaid'. The frame was written by program (proof-skeleton.mjs); the walk is typed by hand.
-/
import Derived.Test.Qxb6625806aTop
import Derived.WalkKit
import Derived.ProofKit
import Derived.OpenShut
import Derived.ShutString
import Derived.ChangeOld
import Derived.Below
namespace Go.Proofs.Qxb6625806a.fnInstanceMemoisedPerArguments
open Go.ChangeShapes Go.WideShapes Go.ChangeAt Go.RowKit
open Go.ChangeMaps (open_string shut_string)
set_option linter.unusedVariables false

theorem own : ownKnob Try.prog.godebug = none := by kernel_rfl
theorem laidOut : laidOutB Try.prog = true := by kernel_rfl

/-- WHAT THE WALK IS TOLD OF A SLICE OF INTEGERS THAT CAME IN: it is nil; or it leads to a row of 'cap' cells, the numbers 'zs' (the first 'len' are its elements, the rest its spare room), each fitting its kind. -/
def IsRow (k : IntKind) (w : World) (a : Option Addr) (len cap : Nat) (zs : List Int) : Prop :=
  (a = none ∧ len = 0 ∧ cap = 0 ∧ zs = []) ∨
  ∃ x, a = some x ∧ len ≤ cap ∧ cap ≤ maxLen ∧ zs.length = cap ∧ (∀ i, i < zs.length → w.cell? (x.add i) = some (.int k (zs.getD i 0))) ∧ ∀ n ∈ zs, (Lit.int k n).wf = true

/-! ### STEP 1: THE WALK: the Go text returns true, and writes nothing that was there. -/
def ints (zs : List Int) : List Value := zs.map (Value.int .i64)

theorem row_cells {w : World} {a : Option Addr} {len cap : Nat} {zs : List Int} (h : IsRow .i64 w a len cap zs) (hpos : 0 < (ints (zs.take len)).length) :
    ∃ ad, a = some ad ∧ ∀ j v, (ints (zs.take len))[j]? = some v → w.cell? (ad.add j) = some v := by
  rcases h with ⟨rfl, rfl, rfl, rfl⟩ | ⟨x, rfl, hl, hm, hz, hc, hw⟩
  · simp [ints] at hpos
  · refine ⟨x, rfl, fun j v hj => ?_⟩
    have hj' : j < (ints (zs.take len)).length := (List.getElem?_eq_some_iff.1 hj).1
    simp [ints] at hj'
    rw [hc j (by omega)]
    have : (ints (zs.take len))[j]? = some (.int .i64 (zs.getD j 0)) := by
      have h1 : j < zs.length := by omega
      have h2 : j < len := by omega
      simp [ints, h2, h1]
    rw [this] at hj
    exact hj

theorem row_len {w : World} {a : Option Addr} {len cap : Nat} {zs : List Int} (h : IsRow .i64 w a len cap zs) : (zs.take len).length = len ∧ len ≤ maxLen ∧ (a.isSome = false → a = none ∧ len = 0 ∧ cap = 0) := by
  rcases h with ⟨rfl, rfl, rfl, rfl⟩ | ⟨x, rfl, hl, hm, hz, hc, hw⟩
  · exact ⟨rfl, Nat.zero_le _, fun _ => ⟨rfl, rfl, rfl⟩⟩
  · exact ⟨by simp; omega, by omega, fun h => by cases h⟩

theorem ints_len (zs : List Int) : (ints zs).length = zs.length := List.length_map ..
theorem ints_len0 {zs : List Int} {n : Nat} (h : zs.length = n) : (ints zs).length = n := by rw [ints_len, h]

theorem own_copied {w : World} {B g n : Nat} {cs : List Value} (hg : w.heap[g]? = some (.cells (splice (madeCells #[Value.int .i64 0] n).toList 0 cs).toArray 3 (0, 0))) (hB : B ≤ g) (hl : cs.length = n) (hn : n ≤ maxLen) :
    w.ownsRow B 3 1 (.slice (some ⟨g, 0, none⟩) n n) n cs := by
  rw [splice_all (by rw [toList_madeCells_one]; simp [hl])] at hg
  exact own_of_block hg hB hl hn

set_option maxRecDepth 100000 in
set_option maxHeartbeats 1000000 in
theorem walk (a0 : Option Addr) (len0 cap0 : Nat) (z0 : List Int) (a1 : Option Addr) (len1 cap1 : Nat) (z1 : List Int) (w : World) (w0 : IsRow .i64 w a0 len0 cap0 z0) (w1 : IsRow .i64 w a1 len1 cap1 z1) :
    Calls Try.prog 3 #[.slice a0 len0 cap0, .slice a1 len1 cap1] w fun e w' => e = .returned (.bool true) ∧ Below w.heap.size w w' := by
  obtain ⟨l0, m0, n0⟩ := row_len w0
  obtain ⟨l1, m1, n1⟩ := row_len w1
  by_cases hsum : len0 + len1 ≤ 1048576
  · have hd : decide (len0 + len1 ≤ 1048576) = true := by simp [hsum]
    by_cases hb0 : 65536 < len0
    · go_enter Try.func3, Try.ntmps3
      go_wp2_with fail
      refine (guard4_any _ _ _ _ _ _ _ m0 m1).mono ?_
      rintro e w' ⟨rfl, rfl⟩
      go_wp2
      go_ret
      exact ⟨rfl, Below.refl _ _⟩
    · by_cases hb1 : 65536 < len1
      · go_enter Try.func3, Try.ntmps3
        go_wp2_with fail
        refine (guard4_any _ _ _ _ _ _ _ m0 m1).mono ?_
        rintro e w' ⟨rfl, rfl⟩
        go_wp2
        go_ret
        exact ⟨rfl, Below.refl _ _⟩
      · obtain ⟨i0, hi, hz0, hz1, hz2⟩ := info_parts info3
        have q22 : ∀ (w : World) (a : Option Addr) (n c n' c' : Nat), (binOp .neq 22 (.slice a n c) (.slice none n' c')).run Try.prog w = .ok (.bool a.isSome) w := fun w a n c n' c' => by rw [run_neq_slice_nil_any w _ _ a n c n' c' Try.underlying22]; cases a <;> rfl
        have W0 : Hid (IsRow .i64 w a0 len0 cap0 z0) := w0
        have W1 : Hid (IsRow .i64 w a1 len1 cap1 z1) := w1
        have L0 : Hid ((z0.take len0).length = len0) := l0
        have L1 : Hid ((z1.take len1).length = len1) := l1
        have N0 : Hid (a0.isSome = false → a0 = none ∧ len0 = 0 ∧ cap0 = 0) := n0
        have N1 : Hid (a1.isSome = false → a1 = none ∧ len1 = 0 ∧ cap1 = 0) := n1
        clear w0 w1 l0 l1 n0 n1
        go_enter Try.func3, Try.ntmps3
        go_wp2_with fail
        refine (guard4_any _ _ _ _ _ _ _ m0 m1).mono ?_
        rintro e w' ⟨rfl, rfl⟩
        go_upto_if 26 with (fail)
        go_cut [0] (fun va wc => wc.ownsRow w.heap.size 3 1 va len0 (ints (z0.take len0)) ∧ Below w.heap.size w wc)
        case first =>
          cases hnil : a0.isSome with
          | false =>
            go_wp2
            go_meet
            case rel =>
              obtain ⟨e1, e2, e3⟩ := N0.out hnil
              subst e1 e2 e3
              exact ⟨World.ownsRow_nil _ _ _ _, Below.refl _ _⟩
          | true =>
            go_wp2_with (first
              | (at_make; refine wpList_make_full _ rfl _ _ 22 rfl w.heap.size 3 i0 (.int .i64 0) 1 Try.underlying22 hi hz0 hz1 _ _ _ _ len0 rfl rfl rfl rfl (by rw [hz2]; omega) m0 (Nat.le_refl _) ?_; intro x1 hown1 hgrow1)
              | (refine wpList_copy_splice rfl (.tmp 30) (.tmp 31) 22 22 rfl 3 Try.underlying22 (by simp [hi, hz1]) _ _ _ _ _ _ rfl rfl _ 0 _ 3 (own_block hown1) (ints (z0.take len0)) ?_ ?_ ?_ (ints_oneCell _ _) w.heap.size w ((Below.refl _ _).grown hgrow1 (Nat.le_refl _) (fun k hk => by cases hk)) (Nat.le_refl _) ?_))
            · rw [ints_len, L0.out]; exact (Nat.min_self _).symm
            · intro hp
              obtain ⟨ad, e1, e2⟩ := row_cells W0.out hp
              exact ⟨ad, e1, fun j v hj => hgrow1.cell (e2 j v hj) (by simp)⟩
            · rw [ints_len, L0.out, Nat.zero_add, Nat.mul_one]; exact Nat.le_of_eq (by rw [show (Value.int IntKind.i64 0).cells = #[Value.int IntKind.i64 0] from rfl, toList_madeCells_one]; simp)
            · intro x2 hx2 hbx2
              have HX := own_copied (B := w.heap.size) hx2.out (Nat.le_refl _) (ints_len0 L0.out) m0
              clear hx2 hown1 hgrow1
              go_wp2
              go_meet
              case rel => exact ⟨HX, hbx2⟩
        case rest =>
          obtain ⟨hv0, hbc⟩ := hcut
          have HV0 : Hid (wc.ownsRow w.heap.size 3 1 u0 len0 (ints (z0.take len0))) := hv0
          have HBC : Hid (Below w.heap.size w wc) := hbc
          clear hv0
          go_upto_if 35 with (fail)
          go_cut [1] (fun vb wd => wd.ownsRow w.heap.size 3 1 vb len1 (ints (z1.take len1)) ∧ wd.ownsRow w.heap.size 3 1 u0 len0 (ints (z0.take len0)) ∧ Below w.heap.size w wd)
          case first =>
            cases hnil : a1.isSome with
            | false =>
              go_wp2
              go_meet
              case rel =>
                obtain ⟨e1, e2, e3⟩ := N1.out hnil
                subst e1 e2 e3
                exact ⟨World.ownsRow_nil _ _ _ _, HV0.out, HBC.out⟩
            | true =>
              go_wp2_with (first
                | (at_make; refine wpList_make_full _ rfl _ _ 22 rfl w.heap.size 3 i0 (.int .i64 0) 1 Try.underlying22 hi hz0 hz1 _ _ _ _ len1 rfl rfl rfl rfl (by rw [hz2]; omega) m1 hbc.size ?_; intro x1 hown1 hgrow1)
                | (refine wpList_copy_splice rfl (.tmp 39) (.tmp 40) 22 22 rfl 3 Try.underlying22 (by simp [hi, hz1]) _ _ _ _ _ _ rfl rfl _ 0 _ 3 (own_block hown1) (ints (z1.take len1)) ?_ ?_ ?_ (ints_oneCell _ _) wc.heap.size wc ((Below.refl _ _).grown hgrow1 (Nat.le_refl _) (fun k hk => by cases hk)) (Nat.le_refl _) ?_))
              · rw [ints_len, L1.out]; exact (Nat.min_self _).symm
              · intro hp
                obtain ⟨ad, e1, e2⟩ := row_cells W1.out hp
                exact ⟨ad, e1, fun j v hj => hgrow1.cell (cell_later HBC.out (e2 j v hj)) (by simp)⟩
              · rw [ints_len, L1.out, Nat.zero_add, Nat.mul_one]; exact Nat.le_of_eq (by rw [show (Value.int IntKind.i64 0).cells = #[Value.int IntKind.i64 0] from rfl, toList_madeCells_one]; simp)
              · intro x2 hx2 hbx2
                have HX := own_copied (B := w.heap.size) hx2.out HBC.out.size (ints_len0 L1.out) m1
                clear hx2 hown1 hgrow1
                go_wp2
                go_meet
                case rel => exact ⟨HX, own_below hbx2 HV0.out, HBC.out.trans (hbx2.mono HBC.out.size)⟩
          case rest =>
            obtain ⟨hv1, hv0, hbd⟩ := hcut
            obtain ⟨za, hza⟩ : ∃ za, za = z0.take len0 := ⟨_, rfl⟩
            obtain ⟨zb, hzb⟩ : ∃ zb, zb = z1.take len1 := ⟨_, rfl⟩
            have la : za.length = len0 := by rw [hza]; exact L0.out
            have lb : zb.length = len1 := by rw [hzb]; exact L1.out
            rw [← hza, ← la] at hv0
            rw [← hzb, ← lb] at hv1
            have sa : za.length ≤ 1048576 := by omega
            have sb : zb.length ≤ 1048576 := by omega
            have OA : Hid (wc.ownsRow w.heap.size 3 1 u0 za.length (za.map (Value.int .i64))) := hv0
            have OB : Hid (wc.ownsRow w.heap.size 3 1 u1 zb.length (zb.map (Value.int .i64))) := hv1
            have BW : Hid (Below w.heap.size w wc) := hbd
            have hBc : w.heap.size ≤ wc.heap.size := hbd.size
            clear la lb hza hzb hv0 hv1 hbd HV0 HBC hbc L0 L1 N0 N1 W0 W1 hsum hd hb0 hb1 m0 m1 q22 hi hz0 hz1 hz2
            go_wp2_with fail
            have M0 := memo_init (w := wc) hBc (.slice none 0 0) (.string { data := #[68] }) (.slice none 0 0) (.slice none 0 0)
            have B0 : Below wc.heap.size wc (wc.alloc (.cells #[.slice none 0 0, .string { data := #[68] }, .slice none 0 0, .slice none 0 0, .slice none 0 0] 30)) := (Below.refl _ _).alloc (Nat.le_refl _) _
            refine (call_new M0 (by simp) (Nat.le_trans hBc B0.size) sa (own_below B0 OA.out) (fun j hj => absurd hj (Nat.not_lt_zero j))).mono ?_
            rintro e v1 ⟨t1, rfl, iv1, _, M1, K1, B1⟩
            have KA1 : Keep wc v1 := (keep_below B0).trans K1
            have BB1 : Below w.heap.size w v1 := (BW.out.trans (B0.mono hBc)).trans B1
            have HM1 : Hid (Memo w.heap.size v1 wc.heap.size [(t1, za)] iv1) := M1
            have HK1 : Hid (Keep wc v1) := KA1
            have HB1 : Hid (Below w.heap.size w v1) := BB1
            clear M0 B0 M1 K1 B1 KA1 BB1
            go_wp2_with fail
            refine (call_second HM1.out HB1.out.size sb (HK1.out.own (by decide) (by decide) OB.out)).mono ?_
            rintro e v2 ⟨t2, rfl, L2, iv2, M2, hd0, hp0, hl2, mem1, mem2, hiff, K2, B2⟩
            have HM2 : Hid (Memo w.heap.size v2 wc.heap.size L2 iv2) := M2
            have HK2 : Hid (Keep wc v2) := HK1.out.trans K2
            have HB2 : Hid (Below w.heap.size w v2) := HB1.out.trans B2
            have HD0 : Hid (L2.getD 0 default = (t1, za)) := hd0
            have HP1 : Hid ((t1, za) ∈ L2) := mem1
            have HP2 : Hid ((t2, zb) ∈ L2) := mem2
            have HIF : Hid (t1 = t2 ↔ za = zb) := hiff
            clear M2 K2 B2 hd0 mem1 mem2 hiff HM1 HK1 HB1
            go_wp2_with fail
            refine (call_old HM2.out hl2 HB2.out.size sa (HK2.out.own (by decide) (by decide) OA.out) 0 hp0 (by rw [HD0.out]) (fun j hj => absurd hj (Nat.not_lt_zero j))).mono ?_
            rintro e v3 ⟨t3, rfl, ht3, M3, K3, B3⟩
            rw [HD0.out] at ht3
            have ht3' : t3 = t1 := ht3
            clear ht3
            subst ht3'
            have HM3 : Hid (Memo w.heap.size v3 wc.heap.size L2 iv2) := M3
            have HK3 : Hid (Keep wc v3) := HK2.out.trans K3
            have HB3 : Hid (Below w.heap.size w v3) := HB2.out.trans B3
            have c1 := memo_head M3 HP1.out
            have c2 := memo_head M3 HP2.out
            clear M3 K3 B3 HM2 HK2 HB2 HD0
            have n24 := neq24
            have e31 := eql31
            go_wp2_with fail
            refine (arg_any HM3.out HB3.out.size HP1.out sa).mono ?_
            rintro e v4 ⟨k1, rfl, hk1, B4⟩
            have HM4 : Hid (Memo w.heap.size v4 wc.heap.size L2 iv2) := HM3.out.below B4
            have HK4 : Hid (Keep wc v4) := HK3.out.trans (keep_below B4)
            have HB4 : Hid (Below w.heap.size w v4) := HB3.out.trans (B4.mono HB3.out.size)
            have OC1 : Hid (v4.ownsRow w.heap.size 3 1 k1 za.length (za.map (Value.int .i64))) := hk1
            clear hk1 B4 HM3 HK3 HB3 c1 c2
            go_wp2_with fail
            refine (arg_any HM4.out HB4.out.size HP2.out sb).mono ?_
            rintro e v5 ⟨k2, rfl, hk2, B5⟩
            have HM5 : Hid (Memo w.heap.size v5 wc.heap.size L2 iv2) := HM4.out.below B5
            have HK5 : Hid (Keep wc v5) := HK4.out.trans (keep_below B5)
            have HB5 : Hid (Below w.heap.size w v5) := HB4.out.trans (B5.mono HB4.out.size)
            have OC1' : Hid (v5.ownsRow w.heap.size 3 1 k1 za.length (za.map (Value.int .i64))) := own_below B5 OC1.out
            have OC2 : Hid (v5.ownsRow w.heap.size 3 1 k2 zb.length (zb.map (Value.int .i64))) := hk2
            have OA5 : Hid (v5.ownsRow w.heap.size 3 1 u0 za.length (za.map (Value.int .i64))) := HK5.out.own (by decide) (by decide) OA.out
            have OB5 : Hid (v5.ownsRow w.heap.size 3 1 u1 zb.length (zb.map (Value.int .i64))) := HK5.out.own (by decide) (by decide) OB.out
            have et : ∀ q, (binOp .eql 31 (.pointer (some ⟨t3, 0, none⟩)) (.pointer (some ⟨t2, 0, none⟩))).run Try.prog (v5.drewN q) = .ok (.bool (decide (t3 = t2))) (v5.drewN q) := fun q => eql31_two (HM5.out.below (below_drewN (Below.refl _ _) q)) HP1.out HP2.out
            have hdd : decide (za = za) = true := by simp
            have hde : decide (zb = zb) = true := by simp
            clear hk2 B5 HM4 HK4 HB4 OC1 OA OB BW
            go_wp2_with fail
            refine (eqInts_any k1 u0 za za _ OC1'.out OA5.out).mono ?_
            rintro e v6 ⟨rfl, q1, rfl⟩
            go_wp2_with fail
            refine (eqInts_any k2 u1 zb zb (v5.drewN q1) OC2.out OB5.out).mono ?_
            rintro e v7 ⟨rfl, q2, rfl⟩
            go_wp2_with fail
            refine (eqInts_any u0 u1 za zb (v5.drewN (q1 + q2)) OA5.out OB5.out).mono ?_
            rintro e v8 ⟨rfl, q3, rfl⟩
            go_wp2
            go_ret
            exact ⟨ret_bool (by have := HIF.out; simp [this]), below_drewN HB5.out _⟩
  · have hd : decide (len0 + len1 ≤ 1048576) = false := by simp [hsum]
    go_enter Try.func3, Try.ntmps3
    go_wp2_with fail
    refine (guard4_any _ _ _ _ _ _ _ m0 m1).mono ?_
    rintro e w' ⟨rfl, rfl⟩
    go_wp2
    go_ret
    exact ⟨rfl, Below.refl _ _⟩

/-! ### THE ROW's STEP: WRITTEN OUT: LEAVE IT -/
set_option maxRecDepth 100000 in
theorem lifted (os : Os) (started : os.Started) (H : Type) (enc : TypeId × Value → H) :
    ReturnsInHanded {} Try.checked os 3 .any (Rows.fnInstanceMemoisedPerArgumentsSpec.pre6 enc Try.prog Try.f3 Rows.fnInstanceMemoisedPerArgumentsRow.domain false) (Rows.fnInstanceMemoisedPerArgumentsSpec.post enc Try.prog Try.f3 false true false false) := by
  refine returnsInHanded_of_change (C := Try.checked) own started (by kernel_rfl) Try.func3
    (ChangeSpec.witness6 (enc := enc) (C := Try.checked) false ⟨#[], #[.slice none 0 0, .slice none 0 0], []⟩ 8 (by kernel_rfl) (by kernel_rfl) (by kernel_rfl) (by kernel_rfl)) ?_
  intro W base args ds gs before hval0 hW hcnd _
  have hval : ∀ (j : Nat) t v, Try.f3.params[j]? = some t → args[j]? = some v → Value.okWide Try.prog W .any base t v := hval0
  have hW' := hW
  obtain ⟨p, q, hA0, hV, rfl, hfz, hnd⟩ := hW
  have hA : DataW.TrodAll enc Try.prog W 0 (fun _ => true) true Try.f3.params.toList args.toList ds p := hA0
  rw [Try.params3] at hA hval
  obtain ⟨v0, vs0, d0, ds0, p0, q0, hargs, rfl, rfl, h0, r0⟩ := trodAll_cons hA
  obtain ⟨v1, vs1, d1, ds1, p1, q1, rfl, rfl, rfl, h1, r1⟩ := trodAll_cons r0
  obtain ⟨rfl, rfl, rfl⟩ := trodAll_nil r1
  obtain rfl : args = #[v0, v1] := by cases args; simp_all
  obtain ⟨rfl, rfl⟩ := trodVars_none hV
  obtain ⟨a0, len0, cap0, rfl⟩ := okWide_slice Try.underlying22 (hval 0 22 v0 rfl rfl)
  have k0 := h0
  have lt0 : ∀ x ∈ p0, x.block < W.heap.size := by obtain ⟨m, hm⟩ := k0; exact DataW.trod_lt m _ _ _ hm
  obtain ⟨z0, w0⟩ : ∃ zs, IsRow .i64 W a0 len0 cap0 zs := by
    obtain ⟨fuel, hf⟩ := h0
    rcases open_ints Try.underlying22 Try.underlying3 (by kernel_rfl) hf with ⟨hcs, _⟩ | ⟨x, l, c, zs, hcs, _, hl, hm, hz, _, hcell, hwz⟩
    · simp [Value.cells] at hcs
      obtain ⟨rfl, rfl, rfl⟩ := hcs
      exact ⟨[], .inl ⟨rfl, rfl, rfl, rfl⟩⟩
    · simp [Value.cells] at hcs
      obtain ⟨rfl, rfl, rfl⟩ := hcs
      exact ⟨zs, .inr ⟨_, rfl, hl, hm, by simpa using hz, hcell, hwz⟩⟩
  obtain ⟨a1, len1, cap1, rfl⟩ := okWide_slice Try.underlying22 (hval 1 22 v1 rfl rfl)
  have k1 := h1
  have lt1 : ∀ x ∈ p1, x.block < W.heap.size := by obtain ⟨m, hm⟩ := k1; exact DataW.trod_lt m _ _ _ hm
  obtain ⟨z1, w1⟩ : ∃ zs, IsRow .i64 W a1 len1 cap1 zs := by
    obtain ⟨fuel, hf⟩ := h1
    rcases open_ints Try.underlying22 Try.underlying3 (by kernel_rfl) hf with ⟨hcs, _⟩ | ⟨x, l, c, zs, hcs, _, hl, hm, hz, _, hcell, hwz⟩
    · simp [Value.cells] at hcs
      obtain ⟨rfl, rfl, rfl⟩ := hcs
      exact ⟨[], .inl ⟨rfl, rfl, rfl, rfl⟩⟩
    · simp [Value.cells] at hcs
      obtain ⟨rfl, rfl, rfl⟩ := hcs
      exact ⟨zs, .inr ⟨_, rfl, hl, hm, by simpa using hz, hcell, hwz⟩⟩
  clear hA0 hval0
  refine (walk a0 len0 cap0 z0 a1 len1 cap1 z1 W w0 w1).mono fun e W' ⟨he, bel⟩ => ?_
  subst he
  exact ⟨_, rfl, _, _, _, [], _, [], hW', trodAll_mk1 (shut_bool Try.underlying4 _), (trodAll_cons_mk (Below.trod laidOut (by kernel_rfl) (of_decide_eq_true (by kernel_rfl)) k0 bel lt0) (trodAll_cons_mk (Below.trod laidOut (by kernel_rfl) (of_decide_eq_true (by kernel_rfl)) k1 bel lt1) trodAll_mk0)), rfl, bel.frame _, fun h => by cases h⟩

theorem over : Rows.fnInstanceMemoisedPerArgumentsRow.holds Try.pinned (OpenSpec.ofChange Rows.fnInstanceMemoisedPerArgumentsSpec) :=
  OpenClaim.holds_of_wide 3 Try.f3 rfl rfl rfl rfl rfl rfl rfl ⟨rfl, rfl, rfl, rfl, rfl⟩ rfl rfl rfl rfl rfl (by kernel_rfl) Try.func3 (by kernel_rfl)
    (of_decide_eq_true (by kernel_rfl)) (by unfold Func.isWrapper; first | (rw [if_pos (by decide +kernel)]; kernel_rfl) | (rw [if_neg (by decide +kernel)]; exact ⟨rfl, rfl⟩))
    (fun os started H enc _ => lifted os started H enc)

/-- ████ THE STATEMENT ████ -/
theorem proved : Rows.FnInstanceMemoisedPerArgumentsSaid := over
#print axioms proved
end Go.Proofs.Qxb6625806a.fnInstanceMemoisedPerArguments
