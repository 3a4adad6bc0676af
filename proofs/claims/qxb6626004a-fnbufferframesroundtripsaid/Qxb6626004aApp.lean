/-
  'binary.BigEndian.AppendUint32' and '(*Encoder).Int32' over a buffer that the call itself has made.
-/
import Derived.Test.Qxb6626004aRows
import Derived.WalkKit
import Derived.WalkLawsBesides
import Derived.BigQuiet
import Derived.Deep.QuietTactic
import Derived.Deep.RegionWith
import Derived.Laws.CopyOwn
import Derived.Laws.AppendOwnNone
import Derived.Lib.SliceRun
namespace Go.Proofs.Qxb6626004a
open Go.RowKit
set_option linter.unusedVariables false

theorem info5 : (Try.prog.info? 5).map (fun i => (i.zero, i.size, i.bytes)) = some (some (.int .u8 0), 1, 1) := by kernel_rfl

/-- A number of four bytes, the greatest first. -/
def be4 (v : Int) : List Int := [v / 16777216, v / 65536 % 256, v / 256 % 256, v % 256]

def u8s (zs : List Int) : List Value := zs.map (Value.int .u8)

theorem u8s_one (zs : List Int) : ∀ u ∈ u8s zs, u.oneCell' = true := by
  intro u hu
  obtain ⟨z, _, rfl⟩ := List.mem_map.1 hu
  rfl
theorem u8s_len (zs : List Int) : (u8s zs).length = zs.length := List.length_map ..
theorem u8s_append (a b : List Int) : u8s a ++ u8s b = u8s (a ++ b) := (List.map_append ..).symm

set_option maxHeartbeats 400000 in
theorem app32 (B n : Nat) (bv : Value) (xs : List Value) (v : Int) (w : World) (hB : B ≤ w.heap.size) (hn : n ≤ 8388608) (h0 : 0 ≤ v) (h1 : v < 4294967296)
    (hown : w.ownsRow B 5 1 bv n xs) :
    Calls Try.prog 14 #[.agg #[], bv, .int .u32 v] w fun e w' => ∃ g c, e = .returned (.slice (some ⟨g, 0, none⟩) (n + 4) c) ∧ w'.ownsRow B 5 1 (.slice (some ⟨g, 0, none⟩) (n + 4) c) (n + 4) (xs ++ u8s (be4 v)) ∧ w.grownBy w' bv.ownBlock := by
  obtain ⟨i0, hi, hz0, hz1, hz2⟩ := info_parts info5
  have HO : Hid (((w.alloc (.cells #[] 38)).alloc (.cells #[.int .u8 (v / 16777216), .int .u8 (v / 65536 % 256), .int .u8 (v / 256 % 256), .int .u8 (v % 256)] 5)).ownsRow B 5 1 bv n xs) := (hown.alloc _).alloc _
  clear hown
  go_enter Try.func14, Try.ntmps14
  go_wp2_with (at_builtin; refine wpList_append_own _ rfl _ _ 22 rfl B 5 i0 (.int .u8 0) 1 1 Try.underlying22 hi hz0 hz1 hz2 rfl (by decide) _ n _ rfl HO.out ⟨w.heap.size + 1, 0, none⟩ 4 4 (u8s (be4 v)) rfl rfl ?c1 (u8s_one _) ?c3 ?c4 ?c5 ?_)
  case c1 =>
    intro j u hj
    match j, hj with
    | 0, hj => simp [u8s, be4] at hj; subst hj; simp [Addr.add]
    | 1, hj => simp [u8s, be4] at hj; subst hj; simp [Addr.add]
    | 2, hj => simp [u8s, be4] at hj; subst hj; simp [Addr.add]
    | 3, hj => simp [u8s, be4] at hj; subst hj; simp [Addr.add]
  case c3 => unfold maxLen; omega
  case c4 => omega
  case c5 => simp; omega
  intro v' w4 hown4 hgrow hiff
  have hex : ∃ g c, v' = .slice (some ⟨g, 0, none⟩) (n + 4) c := by
    rcases hown4.2 with ⟨_, e1⟩ | ⟨g2, c2, _, e1, _⟩
    · omega
    · exact ⟨g2, c2, e1⟩
  have hg : w.grownBy w4 bv.ownBlock := ⟨hgrow.os, hgrow.tape, hgrow.output, Nat.le_trans (by simp; omega) hgrow.size, fun k hk hne => by
    rw [hgrow.block k (by simp; omega) hne, Below.heap_alloc _ _ _ (by simp; omega), Below.heap_alloc _ _ _ hk]⟩
  clear hgrow hiff
  obtain ⟨g, c, hv⟩ := hex
  rw [hv] at hown4
  rw [hv]
  clear hv
  go_wp2
  go_ret
  exact ⟨g, c, rfl, hown4, hg⟩

/-- An encoder at block E, whose buffer holds the bytes xs; all of it lies from block B on. -/
structure Enc (B E : Nat) (w : World) (bv : Value) (xs : List Int) : Prop where
  eB : B ≤ E
  blk : w.heap[E]? = some (.cells #[bv] 33 (0, 0))
  own : w.ownsRow B 5 1 bv xs.length (u8s xs)

theorem Enc.lt {B E : Nat} {w : World} {bv : Value} {xs : List Int} (h : Enc B E w bv xs) : E < w.heap.size := lt_of_block h.blk
theorem Enc.cell {B E : Nat} {w : World} {bv : Value} {xs : List Int} (h : Enc B E w bv xs) : w.cell? ⟨E, 0, none⟩ = some bv := by simp [World.cell?, h.blk]

theorem own_type {w : World} {B e s n : Nat} {v : Value} {xs : List Value} (ho : w.ownsRow B e s v n xs) {k : Nat} (hk : v.ownBlock = some k) : B ≤ k ∧ ∃ cs, w.heap[k]? = some (.cells cs e (0, 0)) := by
  rcases ho.2 with ⟨rfl, _⟩ | ⟨g, cap, cur, rfl, h2, h3, h4⟩
  · cases hk
  · cases hk; exact ⟨h2, cur, h3⟩

theorem own_shape {w : World} {B e n : Nat} {v : Value} {xs : List Value} (h : w.ownsRow B e 1 v n xs) : ∃ a c, v = .slice a n c := by
  rcases h.2 with ⟨rfl, rfl⟩ | ⟨g, cap, cur, rfl, _⟩
  · exact ⟨_, _, rfl⟩
  · exact ⟨_, _, rfl⟩

theorem own_as {w : World} {B : Nat} {v : Value} {xs ys : List Int} {m : Nat} (h : w.ownsRow B 5 1 v (xs.length + m) (u8s xs ++ u8s ys)) : w.ownsRow B 5 1 v (xs ++ ys).length (u8s (xs ++ ys)) := by
  rw [u8s_append] at h
  have : xs.length + m = (xs ++ ys).length := by
    have := h.1
    rw [u8s_len] at this
    omega
  rw [this] at h
  exact h

theorem Enc.mid {B E : Nat} {w w1 : World} {bv : Value} {xs : List Int} (h : Enc B E w bv xs) (hg : w.grownBy w1 bv.ownBlock) : w1.heap[E]? = some (.cells #[bv] 33 (0, 0)) := by
  rw [hg.block E h.lt (fun c => ?_)]
  · exact h.blk
  · obtain ⟨_, cs, h'⟩ := own_type h.own c.symm
    rw [h.blk] at h'
    simp at h'

theorem Enc.mid' {B E : Nat} {w w1 : World} {bv : Value} {xs : List Int} (h : Enc B E w bv xs) (hg : w.drew.grownBy w1 bv.ownBlock) : w1.cell? ⟨E, 0, none⟩ = some bv ∧ w1.frozen? ⟨E, 0, none⟩ = false := by
  have hm := h.mid (w1 := w1) ⟨hg.os, hg.tape, hg.output, hg.size, hg.block⟩
  exact ⟨by simp [World.cell?, hm], by simp [World.frozen?, hm]⟩

theorem u32_range (v : Int) : 0 ≤ IntKind.u32.wrap v ∧ IntKind.u32.wrap v < 4294967296 := by
  simp only [IntKind.wrap, IntKind.bits, IntKind.signed]
  simp
  omega

theorem u32_small (n : Nat) (h : n < 2147483648) : IntKind.u32.wrap (n : Int) = (n : Int) := by
  simp only [IntKind.wrap, IntKind.bits, IntKind.signed]
  simp
  omega

theorem Enc.next {B E : Nat} {w w1 : World} {bv v' : Value} {xs ys : List Int} (h : Enc B E w bv xs) (hB : B ≤ w.heap.size) (hg : w.grownBy w1 bv.ownBlock)
    (ho : w1.ownsRow B 5 1 v' ys.length (u8s ys)) : Enc B E (w1.setCell ⟨E, 0, none⟩ v') v' ys ∧ Below B w (w1.setCell ⟨E, 0, none⟩ v') := by
  have hm := h.mid hg
  refine ⟨⟨h.eB, one_setCell hm, ownsRow_setCell_other ho (fun c => ?_) _⟩, ((Below.refl _ _).grown hg hB (fun k hk => (own_type h.own hk).1)).setCell h.eB _⟩
  obtain ⟨_, cs, h'⟩ := own_type ho c
  rw [hm] at h'
  simp at h'

set_option maxHeartbeats 400000 in
theorem int32_core (B E : Nat) (a : Option Addr) (c : Nat) (xs : List Int) (v : Int) (w : World) (hB : B ≤ w.heap.size) (hn : xs.length ≤ 4194304) 
    (hE : Enc B E w (.slice a xs.length c) xs) :
    Calls Try.prog 13 #[.pointer (some ⟨E, 0, none⟩), .int .i32 v] w fun e w' => e = .returned (.tuple #[]) ∧ ∃ bv, Enc B E w' bv (xs ++ be4 (IntKind.u32.wrap v)) ∧ Below B w w' := by
  have hc := hE.cell
  have hw := u32_range v
  have HE : Hid (Enc B E w (.slice a xs.length c) xs) := hE
  clear hE
  go_enter Try.func13, Try.ntmps13
  go_wp2
  go_region_with (go_at_call 14; refine (app32 B xs.length (.slice a xs.length c) (u8s xs) (IntKind.u32.wrap v) w.drew hB (by omega) hw.1 hw.2 HE.out.own).mono ?_; rintro e w1 ⟨g, c', rfl, hown1, hgrow1⟩; have hm1 : w1.cell? ⟨E, 0, none⟩ = some (.slice a xs.length c) := (HE.out.mid' hgrow1).1; have hf1 : w1.frozen? ⟨E, 0, none⟩ = false := (HE.out.mid' hgrow1).2)
  all_goals
    go_end0
    have R := HE.out.next (w1 := w1) (ys := xs ++ be4 (IntKind.u32.wrap v)) hB ⟨hgrow1.os, hgrow1.tape, hgrow1.output, hgrow1.size, hgrow1.block⟩ (own_as hown1)
    exact ⟨rfl, _, R.1, R.2⟩

theorem int32_any {B E : Nat} {bv : Value} {xs : List Int} {v : Int} {w : World} (hB : B ≤ w.heap.size) (hn : xs.length ≤ 4194304) (hE : Enc B E w bv xs) :
    Calls Try.prog 13 #[.pointer (some ⟨E, 0, none⟩), .int .i32 v] w fun e w' => e = .returned (.tuple #[]) ∧ ∃ bv, Enc B E w' bv (xs ++ be4 (IntKind.u32.wrap v)) ∧ Below B w w' := by
  obtain ⟨a, c, rfl⟩ := own_shape hE.own
  exact int32_core B E a c xs v w hB hn hE

/-- What a slice of bytes that came in, or that lies in a row of the call's own, holds. -/
def Sees (w : World) (a : Option Addr) (zs : List Int) : Prop :=
  zs = [] ∨ ∃ b off, a = some ⟨b, off, none⟩ ∧ ∀ j, j < zs.length → w.cell? ⟨b, off + j, none⟩ = some (.int .u8 (zs.getD j 0))

theorem cell_lt {w : World} {a : Addr} {v : Value} (h : w.cell? a = some v) : a.block < w.heap.size := by
  unfold World.cell? at h
  split at h
  · rename_i hb
    exact lt_of_block hb
  · cases h

theorem Sees.later {w w' : World} {a : Option Addr} {zs : List Int} (h : Sees w a zs) (hb : Below w.heap.size w w') : Sees w' a zs := by
  rcases h with h | ⟨b, off, h1, h2⟩
  · exact .inl h
  · exact .inr ⟨b, off, h1, fun j hj => by
      have := h2 j hj
      have hlt : b < w.heap.size := cell_lt this
      rw [hb.cell (p := ⟨b, off + j, none⟩) hlt]; exact this⟩

/-- The bytes that 'Buffer' lays for a slice: its length and its bytes; nil: minus one. -/
def encOf (a : Option Addr) (zs : List Int) : List Int := if a.isNone then be4 4294967295 else be4 zs.length ++ zs

set_option maxHeartbeats 400000 in
theorem buffer_nil (B E : Nat) (bv : Value) (xs : List Int) (n c : Nat) (w : World) (hB : B ≤ w.heap.size) (hn : xs.length ≤ 4194304) (hE : Enc B E w bv xs) :
    Calls Try.prog 8 #[.pointer (some ⟨E, 0, none⟩), .slice none n c] w fun e w' => e = .returned (.tuple #[]) ∧ ∃ bv, Enc B E w' bv (xs ++ be4 4294967295) ∧ Below B w w' := by
  have q22 : ∀ (w : World) (a : Option Addr) (n c n' c' : Nat), (binOp .eql 22 (.slice a n c) (.slice none n' c')).run Try.prog w = .ok (.bool a.isNone) w := fun w a n c n' c' => Lib.run_eql_slice_nil w _ _ a n c n' c' Try.underlying22
  go_enter Try.func8, Try.ntmps8
  go_wp2_with fail
  refine (int32_any hB hn hE).mono ?_
  rintro e w1 ⟨rfl, bv1, hE1, hb1⟩
  go_wp2
  refine bodyPost_ret (results_none rfl _ _ _) rfl ?_
  exact ⟨rfl, bv1, hE1, hb1⟩

theorem add_block (a : Addr) (j : Nat) : (a.add j).block = a.block := by
  unfold Addr.add
  split <;> rfl

set_option maxHeartbeats 800000 in
theorem buffer_some (B E : Nat) (bv : Value) (xs : List Int) (x : Addr) (n c : Nat) (zs : List Int) (w : World) (hB : B ≤ w.heap.size) (hn : xs.length ≤ 2097152) (hE : Enc B E w bv xs)
    (hz : zs.length = n) (hzn : n ≤ 1048576) (hx : 0 < n → x.block < B) (hcs : ∀ j u, (u8s zs)[j]? = some u → w.cell? (x.add j) = some u) :
    Calls Try.prog 8 #[.pointer (some ⟨E, 0, none⟩), .slice (some x) n c] w fun e w' => e = .returned (.tuple #[]) ∧ ∃ bv, Enc B E w' bv (xs ++ (be4 n ++ zs)) ∧ Below B w w' := by
  have q22 : ∀ (w : World) (a : Option Addr) (n c n' c' : Nat), (binOp .eql 22 (.slice a n c) (.slice none n' c')).run Try.prog w = .ok (.bool a.isNone) w := fun w a n c n' c' => Lib.run_eql_slice_nil w _ _ a n c n' c' Try.underlying22
  obtain ⟨i0, hi, hz0, hz1, hz2⟩ := info_parts info5
  have HZ : Hid (zs.length = n) := hz
  have HCS : Hid (∀ j u, (u8s zs)[j]? = some u → w.cell? (x.add j) = some u) := hcs
  clear hz hcs
  go_enter Try.func8, Try.ntmps8
  go_wp2_with fail
  refine (int32_any hB (by omega) hE).mono ?_
  rintro e w1 ⟨rfl, bv1, hE1, hb1⟩
  have hwr : IntKind.u32.wrap (n : Int) = (n : Int) := u32_small n (by omega)
  rw [hwr] at hE1
  obtain ⟨a1, c1, hbv⟩ := own_shape hE1.own
  rw [hbv] at hE1
  have hc1 := hE1.cell
  have hl1 : (xs ++ be4 (n : Int)).length = xs.length + 4 := by simp [be4]
  rw [hl1] at hc1 hE1
  have HE1 : Hid (Enc B E w1 (.slice a1 (xs.length + 4) c1) (xs ++ be4 (n : Int))) := hE1
  have HO1 : Hid (w1.ownsRow B 5 1 (.slice a1 (xs.length + 4) c1) (xs.length + 4) (u8s (xs ++ be4 (n : Int)))) := by have := hE1.own; rw [hl1] at this; exact this
  have HS1 : Hid (∀ j u, (u8s zs)[j]? = some u → w1.cell? (x.add j) = some u) := fun j u hj => by
    have hj' : j < (u8s zs).length := (List.getElem?_eq_some_iff.1 hj).1
    rw [u8s_len, HZ.out] at hj'
    rw [hb1.cell (by rw [add_block]; exact hx (by omega))]
    exact HCS.out j u hj
  have hB1 : B ≤ w1.heap.size := Nat.le_trans hB hb1.size
  have HB1 : Hid (Below B w w1) := hb1
  clear hE1 hbv hb1 hwr hl1 HCS hE
  go_wp2_with (at_builtin; refine wpList_append_own _ rfl _ _ 22 rfl B 5 i0 (.int .u8 0) 1 1 Try.underlying22 hi hz0 hz1 hz2 rfl (by decide) _ (xs.length + 4) _ rfl HO1.out x n c (u8s zs) rfl (by rw [u8s_len, HZ.out, Nat.mul_one]) HS1.out (u8s_one _) (by unfold maxLen; omega) (by omega) hB1 ?_)
  intro v' w4 hown4 hgrow hiff
  have hex : ∃ g c, v' = .slice (some ⟨g, 0, none⟩) (xs.length + 4 + n) c := by
    rcases hown4.2 with ⟨_, e1⟩ | ⟨g2, c2, _, e1, _⟩
    · omega
    · exact ⟨g2, c2, e1⟩
  have hm := HE1.out.mid hgrow
  have f4a : w4.cell? ⟨E, 0, none⟩ = some (.slice a1 (xs.length + 4) c1) := by simp [World.cell?, hm]
  have f4b : w4.frozen? ⟨E, 0, none⟩ = false := by simp [World.frozen?, hm]
  have R : Enc B E (w4.setCell ⟨E, 0, none⟩ v') v' (xs ++ (be4 (n : Int) ++ zs)) ∧ Below B w1 (w4.setCell ⟨E, 0, none⟩ v') := by
    refine HE1.out.next hB1 hgrow ?_
    rw [u8s_append, List.append_assoc] at hown4
    have : (xs ++ (be4 (n : Int) ++ zs)).length = xs.length + 4 + n := by simp [be4, HZ.out]; omega
    rw [this]
    exact hown4
  obtain ⟨g, c', hv⟩ := hex
  rw [hv] at R
  have HR : Hid (Enc B E (w4.setCell ⟨E, 0, none⟩ (.slice (some ⟨g, 0, none⟩) (xs.length + 4 + n) c')) (.slice (some ⟨g, 0, none⟩) (xs.length + 4 + n) c') (xs ++ (be4 (n : Int) ++ zs)) ∧ Below B w1 (w4.setCell ⟨E, 0, none⟩ (.slice (some ⟨g, 0, none⟩) (xs.length + 4 + n) c'))) := R
  rw [hv]
  clear R hv hown4 hgrow hiff hm HO1 HS1 HE1
  go_wp2
  go_end0
  exact ⟨rfl, _, HR.out.1, HB1.out.trans HR.out.2⟩
end Go.Proofs.Qxb6626004a
