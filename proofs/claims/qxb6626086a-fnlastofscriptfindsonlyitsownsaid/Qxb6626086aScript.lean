/-
  THE WALK OF 'FnLastOfScriptFindsOnlyItsOwn'.
-/
import Derived.Test.Qxb6626086aScript0
namespace Go.Proofs.Qxb6626086a
open Go.RowKit
set_option linter.unusedVariables false

/-- 'present' behind k places. -/
def presB (I : Nat → ByteArray) (s : ByteArray) (k : Nat) : Bool := (lastIdx I s k).isSome
/-- 'match' behind k places, r the place that was found. -/
def matB (r k : Nat) : Bool := decide (r < k)

theorem last_none {I : Nat → ByteArray} {s : ByteArray} : ∀ {n : Nat}, lastIdx I s n = Option.none → ∀ k, k < n → ¬ I k = s
  | 0, _, k, hk => by omega
  | n + 1, h, k, hk => by
    unfold lastIdx at h
    split at h
    · cases h
    · by_cases e : k = n
      · subst e; assumption
      · exact last_none h k (by omega)

theorem pres_hit {I : Nat → ByteArray} {s : ByteArray} {k : Nat} (h : I k = s) : presB I s (k + 1) = true := by simp [presB, lastIdx, h]
theorem pres_miss {I : Nat → ByteArray} {s : ByteArray} {k : Nat} (h : ¬ I k = s) : presB I s (k + 1) = presB I s k := by simp [presB, lastIdx, h]
theorem mat_hit (r : Nat) : matB r (r + 1) = true := by simp [matB]
theorem mat_miss {r k : Nat} (h : ¬ r = k) : matB r (k + 1) = matB r k := by simp [matB]; omega

theorem eql31_two {w : World} {S n k : Nat} {I : Nat → ByteArray} (h : SetsTo w S n k I) {r j : Nat} (hne : ¬ r = j) :
    (binOp .eql 31 (.pointer (some ⟨S, r * 37, Option.none⟩)) (.pointer (some ⟨S, j * 37, Option.none⟩))).run Try.prog w = .ok (.bool false) w := by
  obtain ⟨i, hi, hs⟩ := Option.map_eq_some_iff.1 info48s
  obtain ⟨cur, hg, _⟩ := h
  exact run_eql_ptr_other w Try.underlying31 hi (by simpa using hs) (by intro c; have := congrArg Addr.off c; simp at this; omega) (a := ⟨S, r * 37, Option.none⟩) (b := ⟨S, j * 37, Option.none⟩) hg hg

theorem neq31 (a : Addr) (w : World) : (binOp .neq 31 (.pointer (some a)) (.pointer (some a))).run Try.prog w = .ok (.bool false) w := by
  obtain ⟨i, hi, _⟩ := Option.map_eq_some_iff.1 info48s
  have h : ∀ d : Nat, (Op.equalIn (d + 1) 31 (.pointer (some a)) (.pointer (some a))).run Try.prog w = .ok true w := fun d => by
    simp [Op.equalIn, run_underlying Try.underlying31, sizeOf, typeInfo, hi, run_sameAddr_same]
  simp only [binOp]
  simp [Op.equal, Op.maxDepth, h 9999]

theorem own_below {w w' : World} (h : Below w.heap.size w w') {B e s n : Nat} {v : Value} {xs : List Value} (ho : w.ownsRow B e s v n xs) : w'.ownsRow B e s v n xs := by
  refine ⟨ho.1, ?_⟩
  rcases ho.2 with h1 | ⟨g, cap, cur, h1, h2, h3, h4⟩
  · exact .inl h1
  · exact .inr ⟨g, cap, cur, h1, h2, by rw [h.block g (lt_of_block h3)]; exact h3, h4⟩

/-- The copied ids stay while the climbs turn. -/
theorem ids_kept {w w' : World} {B n c NC S : Nat} {a : Option Addr} {ids : List ByteArray} {I : Nat → ByteArray} {mv : Value} (h : w.ownsRow B 9 1 (.slice a n c) n (strs ids)) (hC : Climb w NC S n I mv) (hg : w.grownBy w' (some NC)) : w'.ownsRow B 9 1 (.slice a n c) n (strs ids) := by
  refine h.kept hg ?_
  rcases h.2 with ⟨e, _⟩ | ⟨g, cap, cur, e, _, hh, _⟩
  · left; rw [e]; rfl
  · right
    rw [e]
    intro c
    have : g = NC := by simpa [Value.ownBlock] using c
    subst this
    obtain ⟨cs, hb, _⟩ := hC.nc
    rw [hh] at hb
    simp at hb

set_option maxRecDepth 100000 in
set_option maxHeartbeats 4000000 in
theorem script_main (a0 : Option Addr) (n c0 : Nat) (ids : List ByteArray) (a1 : Option Addr) (m c1 : Nat) (Q : Nat → ByteArray) (X : Nat → Int) (w : World) (hl : ids.length = n) (hs : SrcS w a0 ids) (hsz : ∀ s ∈ ids, s.size ≤ maxLen) (hm : n ≤ maxLen)
    (hmm : m ≤ maxLen) (hQ : ReadsQ w a1 m Q X) (hQs : ∀ q, q < m → (Q q).size ≤ maxLen) (hn : n ≤ 65536) (hm4 : m ≤ 4096) (hnil : a0.isSome = false → a0 = Option.none ∧ n = 0 ∧ c0 = 0) :
    Calls Try.prog 4 #[.slice a0 n c0, .slice a1 m c1] w fun e w' => e = .returned (.bool true) ∧ Below w.heap.size w w' := by
  obtain ⟨i0, hi9, hz0, hz1, hz2⟩ := info_parts info9
  have q22 : ∀ (w : World) (a : Option Addr) (n c n' c' : Nat), (binOp .neq 22 (.slice a n c) (.slice Option.none n' c')).run Try.prog w = .ok (.bool a.isSome) w := fun w a n c n' c' => by rw [run_neq_slice_nil_any w _ _ a n c n' c' Try.underlying22]; cases a <;> rfl
  have HL : Hid (ids.length = n) := hl
  have HS : Hid (SrcS w a0 ids) := hs
  have HZ : Hid (∀ s ∈ ids, s.size ≤ maxLen) := hsz
  have HNil : Hid (a0.isSome = false → a0 = Option.none ∧ n = 0 ∧ c0 = 0) := hnil
  have HQ : Hid (ReadsQ w a1 m Q X) := hQ
  have HQs : Hid (∀ q, q < m → (Q q).size ≤ maxLen) := hQs
  clear hl hs hsz hnil hQ hQs
  go_enter Try.func4, Try.ntmps4
  go_wp2_with fail
  refine (guard9_any _ _ _ _ _ _ _ Q X _ hm hmm (HS.out.reads HL.out) HQ.out).mono ?_
  rintro e w' ⟨⟨gv, rfl⟩, rfl⟩
  cases gv with
  | false =>
    go_wp2
    go_ret
    exact ⟨rfl, Below.refl _ _⟩
  | true =>
    go_upto_if 30 with (fail)
    go_cut [0] (fun va wc => wc.ownsRow w.heap.size 9 1 va n (strs ids) ∧ Below w.heap.size w wc)
    case first =>
      cases hnl : a0.isSome with
      | false =>
        go_wp2
        go_meet
        case rel =>
          obtain ⟨e1, e2, e3⟩ := HNil.out hnl
          subst e1 e2 e3
          have : ids = [] := List.eq_nil_of_length_eq_zero HL.out
          subst this
          exact ⟨World.ownsRow_nil _ _ _ _, Below.refl _ _⟩
      | true =>
        go_wp2_with (first
          | (at_make; refine wpList_make_full _ rfl _ _ 22 rfl w.heap.size 9 i0 (.string ⟨#[]⟩) 1 Try.underlying22 hi9 hz0 hz1 _ _ _ _ n rfl rfl rfl rfl (by rw [hz2]; omega) hm (Nat.le_refl _) ?_; intro x1 hown1 hgrow1)
          | (refine wpList_copy_splice rfl (.tmp 34) (.tmp 35) 22 22 rfl 9 Try.underlying22 (by simp [hi9, hz1]) _ _ _ _ _ _ rfl rfl _ 0 _ 9 (own_block hown1) (strs ids) ?_ ?_ ?_ (strs_one _) w.heap.size w ((Below.refl _ _).grown hgrow1 (Nat.le_refl _) (fun k hk => by cases hk)) (Nat.le_refl _) ?_))
        · rw [strs_len, HL.out]; exact (Nat.min_self _).symm
        · intro hp
          cases ha : a0 with
          | none => rw [ha] at hnl; cases hnl
          | some ad => exact ⟨ad, rfl, fun j v hj => hgrow1.cell (HS.out.2 ad j v ha hj) (by simp)⟩
        · rw [strs_len, HL.out, Nat.zero_add, Nat.mul_one]; exact Nat.le_of_eq (by rw [show (Value.string ⟨#[]⟩).cells = #[Value.string ⟨#[]⟩] from rfl, toList_madeCells_one]; simp)
        · intro x2 hx2 hbx2
          have HX := own_copied (B := w.heap.size) hx2.out (Nat.le_refl _) (by rw [strs_len, HL.out]) hm
          clear hx2 hown1 hgrow1
          have HX' : Hid (x2.ownsRow w.heap.size 9 1 (.slice (some ⟨w.heap.size, 0, Option.none⟩) n n) n (strs ids)) := HX
          clear HX
          go_wp2
          go_meet
          case rel => exact ⟨HX'.out, hbx2⟩
    case rest =>
      obtain ⟨hv0, hbc⟩ := hcut
      obtain ⟨a', c', hu⟩ := own_shape hv0
      subst hu
      obtain ⟨I, hI⟩ : ∃ I : Nat → ByteArray, I = fun j => ids.getD j ByteArray.empty := ⟨_, rfl⟩
      have HA : Hid (∀ k, k < n → ∃ g, a' = some ⟨g, 0, Option.none⟩ ∧ wc.cell? ⟨g, k, Option.none⟩ = some (.string (I k))) := own_reads hv0 HL.out hI
      have HO : Hid (wc.ownsRow w.heap.size 9 1 (.slice a' n c') n (strs ids)) := hv0
      have HB : Hid (Below w.heap.size w wc) := hbc
      have HIs : Hid (∀ k, k < n → (I k).size ≤ maxLen) := sizes_of HZ.out HL.out hI
      have HIe : Hid (I = fun j => ids.getD j ByteArray.empty) := hI
      clear hv0 hbc hI hz0 hz1 hz2 hi9 q22 HS HNil HZ
      go_wp2
      go_loop [6, 7] (fun z x => ∃ (t : Int) (k : Nat), k ≤ n ∧ x = .int .i64 k ∧ z = .int .i64 t) (fun _ x => n - (intOf x).toNat)
      case atStart => exact ⟨_, 0, Nat.zero_le _, rfl, rfl⟩
      case round =>
        obtain ⟨t, k, hk, rfl, rfl⟩ := hrel
        by_cases hlt : k < n
        · obtain ⟨g, hg, hc⟩ := HA.out k hlt
          subst hg
          go_wp2
          · go_ret
            exact ⟨rfl, HB.out⟩
          · go_round
            case rel => exact ⟨_, k + 1, by omega, by go_num, rfl⟩
            case measure => simp [intOf]; omega
        · go_wp2
          clear hk hlt
          go_loop [6, 8] (fun z x => ∃ (t : Int) (k : Nat), k ≤ m ∧ x = .int .i64 k ∧ z = .int .i64 t) (fun _ x => m - (intOf x).toNat)
          case atStart => exact ⟨_, 0, Nat.zero_le _, rfl, rfl⟩
          case round =>
            obtain ⟨t2, q, hk, rfl, rfl⟩ := hrel
            by_cases hlt : q < m
            · obtain ⟨b, off, ha, cQ, cX⟩ := HQ.out q hlt
              subst ha
              have cQ' : wc.cell? ⟨b, off + q * 2, Option.none⟩ = some (.string (Q q)) := cell_later HB.out cQ
              clear cX cQ
              go_wp2
              · go_ret
                exact ⟨rfl, HB.out⟩
              · go_round
                case rel => exact ⟨_, q + 1, by omega, by go_num, rfl⟩
                case measure => simp [intOf]; omega
            · have HO' : Hid (wc.ownsRow w.heap.size 9 1 (.slice a' n c') ids.length (strs ids)) := by show World.ownsRow _ _ _ _ _ _ _; rw [HL.out]; exact HO.out
              go_wp2_with fail
              refine (new_any HB.out.size (by rw [HL.out]; exact hn) HO'.out).mono ?_
              rintro e v1 ⟨NC, S, rfl, hC, hb1, hNC⟩
              rw [HL.out, ← HIe.out] at hC
              have HCl : Hid (Climb v1 NC S n I (.map Option.none)) := hC
              have HB1 : Hid (Below w.heap.size w v1) := HB.out.trans (hb1.mono HB.out.size)
              have HNC : Hid (w.heap.size ≤ NC) := Nat.le_trans HB.out.size hNC
              have HO1 : Hid (v1.ownsRow w.heap.size 9 1 (.slice a' n c') n (strs ids)) := own_below hb1 HO.out
              clear hC hb1 hNC HA HO HO' hk hlt
              have e31 := eql31
              have n31 := neq31
              go_wp2
              go_loopw [10] (fun x wr => ∃ (q : Nat) (mv : Value), q ≤ m ∧ x = .int .i64 q ∧ Climb wr NC S n I mv ∧ Below w.heap.size w wr ∧ wr.ownsRow w.heap.size 9 1 (.slice a' n c') n (strs ids)) (fun x _ => m - (intOf x).toNat)
              case atStart => exact ⟨0, _, Nat.zero_le _, rfl, HCl.out, HB1.out, HO1.out⟩
              case round =>
                obtain ⟨p, mv, hp, rfl, hC, hb, ho⟩ := hrel
                have HC : Hid (Climb wr NC S n I mv) := hC
                have HBr : Hid (Below w.heap.size w wr) := hb
                have HOr : Hid (wr.ownsRow w.heap.size 9 1 (.slice a' n c') n (strs ids)) := ho
                clear hC hb ho HCl HB1 HO1
                by_cases hlt : p < m
                · obtain ⟨b, off, ha, cQ, cX⟩ := HQ.out p hlt
                  subst ha
                  have cQ' : wr.cell? ⟨b, off + p * 2, Option.none⟩ = some (.string (Q p)) := cell_later HBr.out cQ
                  have cX' : wr.cell? ⟨b, off + p * 2 + 1, Option.none⟩ = some (.int .i64 (X p)) := cell_later HBr.out cX
                  have hqs := HQs.out p hlt
                  clear cQ cX
                  go_wp2_with fail
                  refine (zlast_any hqs hn HIs.out (HC.out.later (World.grownBy_alloc wr _ _)) (World.cell?_alloc_mark wr _ 30 (0, 0) 0)).mono ?_
                  rintro e v2 ⟨rfl, ⟨mv2, hC2⟩, hg2⟩
                  have HC2 : Hid (Climb v2 NC S n I mv2) := hC2
                  have HB2 : Hid (Below w.heap.size w v2) := (HBr.out.alloc HBr.out.size _).grown hg2 (Nat.le_trans HBr.out.size (by simp)) (fun k hk => by cases hk; exact HNC.out)
                  have HO2 : Hid (v2.ownsRow w.heap.size 9 1 (.slice a' n c') n (strs ids)) := ids_kept (HOr.out.alloc _) (HC.out.later (World.grownBy_alloc wr _ _)) hg2
                  have HA2 : Hid (∀ k, k < n → ∃ g, a' = some ⟨g, 0, Option.none⟩ ∧ v2.cell? ⟨g, k, Option.none⟩ = some (.string (I k))) := own_reads HO2.out HL.out HIe.out
                  clear hC2 hg2 cQ' cX' HC HBr HOr
                  by_cases hin : 0 ≤ X p ∧ X p < n ∧ I (X p).toNat = Q p
                  · have OF : Hid (ofIdx I n (Q p) (X p) = some (X p).toNat) := by show _ = _; unfold ofIdx; rw [if_pos hin]
                    rw [OF.out]
                    obtain ⟨x, hx⟩ : ∃ x : Nat, X p = x := ⟨(X p).toNat, by omega⟩
                    rw [hx] at hin ⊢
                    obtain ⟨h0, h1, he⟩ := hin
                    rw [Int.toNat_natCast] at he ⊢
                    have hxn : x < n := by omega
                    obtain ⟨g, hg, hc⟩ := HA2.out x hxn
                    have heq : ((I x).toList == (Q p).toList) = true := by rw [texts_eq]; simp [he]
                    subst hg
                    clear OF hx he HA2
                    unfold ptrOf
                    go_wp2_with fail
                    refine (setAt_any hn HC2.out hxn).mono ?_
                    rintro e w' ⟨rfl, rfl⟩
                    go_wp2
                    go_roundw
                    case rel => exact ⟨p + 1, _, by omega, by go_num, HC2.out, HB2.out, HO2.out⟩
                    case measure => simp [intOf]; omega
                  · have OF : Hid (ofIdx I n (Q p) (X p) = lastIdx I (Q p) n) := by show _ = _; unfold ofIdx; rw [if_neg hin]
                    rw [OF.out]
                    have HR : Hid (∃ v, v = ptrOf S (lastIdx I (Q p) n)) := ⟨_, rfl⟩
                    obtain ⟨pv, hpv⟩ := HR.out
                    rw [← hpv]
                    have HPV : Hid (pv = ptrOf S (lastIdx I (Q p) n)) := hpv
                    clear hpv OF HR
                    generalize X p = xq at hin ⊢
                    go_upto_region 29 with (fail)
                    go_cut [110] (fun t w' => t = .bool false ∧ v2 = w')
                    case first =>
                      by_cases h0 : 0 ≤ xq
                      · by_cases h1 : xq < n
                        · obtain ⟨x, rfl⟩ : ∃ x : Nat, xq = x := ⟨xq.toNat, by omega⟩
                          have hxn : x < n := by omega
                          have he : ¬ I x = Q p := fun c => hin ⟨h0, h1, by rw [Int.toNat_natCast]; exact c⟩
                          obtain ⟨g, hg, hc⟩ := HA2.out x hxn
                          have heq : ((I x).toList == (Q p).toList) = false := by rw [texts_eq]; simp [he]
                          subst hg
                          clear he hin HA2
                          go_wp2
                          go_meet
                          case rel => exact ⟨rfl, rfl⟩
                        · have hd : decide (xq < (n : Int)) = false := by simp; omega
                          clear hin
                          go_wp2
                          go_meet
                          case rel => exact ⟨rfl, rfl⟩
                      · have hd : decide (0 ≤ xq) = false := by simp; omega
                        clear hin
                        go_wp2
                        go_meet
                        case rel => exact ⟨rfl, rfl⟩
                    case rest =>
                      obtain ⟨rfl, rfl⟩ := hcut
                      clear hin
                      cases hR : lastIdx I (Q p) n with
                      | none =>
                        have hpv : pv = .pointer Option.none := by rw [HPV.out, hR]; rfl
                        have HNo : Hid (∀ k, k < n → ¬ I k = Q p) := last_none hR
                        clear HPV hR
                        subst hpv
                        go_wp2
                        go_loop [14, 15, 16] (fun pr mt x => ∃ k : Nat, k ≤ n ∧ x = .int .i64 k ∧ pr = .bool false ∧ mt = .bool false) (fun _ _ x => n - (intOf x).toNat)
                        case atStart => exact ⟨0, Nat.zero_le _, rfl, rfl, rfl⟩
                        case round =>
                          obtain ⟨z, hz, rfl, rfl, rfl⟩ := hrel
                          by_cases hzn : z < n
                          · obtain ⟨g, hg, hc⟩ := HA2.out z hzn
                            have heq : ((I z).toList == (Q p).toList) = false := by rw [texts_eq]; simp [HNo.out z hzn]
                            subst hg
                            go_wp2
                            go_round
                            case rel => exact ⟨z + 1, by omega, by go_num, rfl, rfl⟩
                            case measure => simp [intOf]; omega
                          · go_wp2
                            go_roundw
                            case rel => exact ⟨p + 1, _, by omega, by go_num, HC2.out, HB2.out, HO2.out⟩
                            case measure => simp [intOf]; omega
                      | some r =>
                        have hpv : pv = .pointer (some ⟨S, r * 37, Option.none⟩) := by rw [HPV.out, hR]; rfl
                        have hr := lastIdx_lt hR
                        have hrn : r < n := hr.1
                        have HRe : Hid (I r = Q p) := hr.2
                        have hpr : presB I (Q p) n = true := by simp [presB, hR]
                        have hmt : matB r n = true := by simp [matB, hrn]
                        clear HPV hR hr
                        subst hpv
                        go_wp2
                        go_loop [14, 15, 16] (fun pr mt x => ∃ k : Nat, k ≤ n ∧ x = .int .i64 k ∧ pr = .bool (presB I (Q p) k) ∧ mt = .bool (matB r k)) (fun _ _ x => n - (intOf x).toNat)
                        case atStart => exact ⟨0, Nat.zero_le _, rfl, rfl, rfl⟩
                        case round =>
                          obtain ⟨z, hz, rfl, rfl, rfl⟩ := hrel
                          by_cases hzn : z < n
                          · obtain ⟨g, hg, hc⟩ := HA2.out z hzn
                            subst hg
                            by_cases he : I z = Q p
                            · have heq : ((I z).toList == (Q p).toList) = true := by rw [texts_eq]; simp [he]
                              have P1 : Hid (true = presB I (Q p) (z + 1)) := (pres_hit he).symm
                              by_cases hrz : r = z
                              · subst hrz
                                have M1 : Hid (true = matB r (r + 1)) := (mat_hit r).symm
                                clear he
                                go_wp2_with fail
                                refine (setAt_any hn HC2.out hzn).mono ?_
                                rintro e w' ⟨rfl, rfl⟩
                                go_wp2
                                go_round
                                case rel => exact ⟨r + 1, by omega, by go_num, by rw [← P1.out], by rw [← M1.out]⟩
                                case measure => simp [intOf]; omega
                              · have M1 : Hid (matB r z = matB r (z + 1)) := (mat_miss hrz).symm
                                have e31' := eql31_two HC2.out.sets hrz
                                clear he
                                go_wp2_with fail
                                refine (setAt_any hn HC2.out hzn).mono ?_
                                rintro e w' ⟨rfl, rfl⟩
                                go_wp2
                                go_round
                                case rel => exact ⟨z + 1, by omega, by go_num, by rw [← P1.out], by rw [← M1.out]⟩
                                case measure => simp [intOf]; omega
                            · have heq : ((I z).toList == (Q p).toList) = false := by rw [texts_eq]; simp [he]
                              have P1 : Hid (presB I (Q p) z = presB I (Q p) (z + 1)) := (pres_miss he).symm
                              have hrz : ¬ r = z := by rintro rfl; exact he HRe.out
                              have M1 : Hid (matB r z = matB r (z + 1)) := (mat_miss hrz).symm
                              clear he
                              go_wp2
                              go_round
                              case rel => exact ⟨z + 1, by omega, by go_num, by rw [← P1.out], by rw [← M1.out]⟩
                              case measure => simp [intOf]; omega
                          · have hzz : z = n := by omega
                            subst hzz
                            go_wp2
                            go_roundw
                            case rel => exact ⟨p + 1, _, by omega, by go_num, HC2.out, HB2.out, HO2.out⟩
                            case measure => simp [intOf]; omega
                · go_wp2
                  go_ret
                  exact ⟨rfl, HBr.out⟩
end Go.Proofs.Qxb6626086a
