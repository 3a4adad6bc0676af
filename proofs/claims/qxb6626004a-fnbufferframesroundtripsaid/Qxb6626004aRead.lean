/-
  'lawReadFrame'.
-/
import Derived.Test.Qxb6626004aLaw
import Derived.Laws.BitsAllLaws
namespace Go.Proofs.Qxb6626004a
open Go.RowKit
set_option linter.unusedVariables false

theorem join4 (b0 b1 b2 b3 : Int) (r0 : 0 ≤ b0) (r0' : b0 < 256) (r1 : 0 ≤ b1) (r1' : b1 < 256) (r2 : 0 ≤ b2) (r2' : b2 < 256) (r3 : 0 ≤ b3) (r3' : b3 < 256) :
    bits .or .u32 (bits .or .u32 (bits .or .u32 (b0 * 16777216) (b1 * 65536)) (b2 * 256)) b3 = b0 * 16777216 + b1 * 65536 + b2 * 256 + b3 := by
  have hk : ∀ n : Int, 0 ≤ n → n < 2 ^ 32 → IntKind.u32.wrap n = n := by
    intro n h0 h1
    simp only [IntKind.wrap, IntKind.bits, IntKind.signed]
    simp at h1 ⊢
    omega
  rw [bits_join .u32 32 (by decide) hk 24 (b0 * 16777216) (b1 * 65536) (by omega) (by omega) (by omega) (by omega) (by omega) (by omega)]
  rw [bits_join .u32 32 (by decide) hk 16 (b0 * 16777216 + b1 * 65536) (b2 * 256) (by omega) (by omega) (by omega) (by omega) (by omega) (by omega)]
  rw [bits_join .u32 32 (by decide) hk 8 (b0 * 16777216 + b1 * 65536 + b2 * 256) b3 (by omega) (by omega) (by omega) (by omega) (by omega) (by omega)]

set_option maxRecDepth 100000 in
set_option maxHeartbeats 1000000 in
theorem read_some (g N cap p L : Nat) (b0 b1 b2 b3 : Int) (w : World) (hp : p + 4 + L ≤ N) (hN : N ≤ cap) (hc : N ≤ 8388608) (hcc : cap ≤ 9223372036854775807) (hL : L ≤ 1048576) (hlt : p + 4 < cap)
    (r0 : 0 ≤ b0) (r0' : b0 < 256) (r1 : 0 ≤ b1) (r1' : b1 < 256) (r2 : 0 ≤ b2) (r2' : b2 < 256) (r3 : 0 ≤ b3) (r3' : b3 < 256)
    (hor : bits .or .u32 (bits .or .u32 (bits .or .u32 (b0 * 16777216) (b1 * 65536)) (b2 * 256)) b3 = (L : Int))
    (c0 : w.cell? ⟨g, p, none⟩ = some (.int .u8 b0)) (c1 : w.cell? ⟨g, p + 1, none⟩ = some (.int .u8 b1)) (c2 : w.cell? ⟨g, p + 2, none⟩ = some (.int .u8 b2)) (c3 : w.cell? ⟨g, p + 3, none⟩ = some (.int .u8 b3)) :
    Calls Try.prog 11 #[.slice (some ⟨g, 0, none⟩) N cap, .int .i64 p] w fun e w' => (∃ q, e = .returned (.tuple #[.slice (some ⟨g, p + 4, none⟩) L q, .bool false, .int .i64 ((p : Int) + 4 + (L : Int)), .bool true])) ∧ ∃ n, w' = w.drewN n := by
  have h1 : (p : Int) < (N : Int) := by omega
  have h2 : (p : Int) + 1 < (N : Int) := by omega
  have h3 : (p : Int) + 2 < (N : Int) := by omega
  have h4 : (p : Int) + 3 < (N : Int) := by omega
  have h5 : ((L : Int) == -1) = false := by simp
  have h6 : ¬ p + 4 = cap := by omega
  go_enter Try.func11, Try.ntmps11
  go_wp2
  go_quiet (fail)
  go_wp2_with fail
  refine bodyPost_ret (v := .tuple #[.slice (some ⟨g, p + 4, none⟩) (p + 4 + L - (p + 4)) (cap - (p + 4)), .bool false, .int .i64 ((p : Int) + 4 + (L : Int)), .bool true]) (by simp [results, Try.results11, go_sem]) rfl ⟨⟨cap - (p + 4), by rw [Nat.add_sub_cancel_left]⟩, nq, rfl⟩

set_option maxRecDepth 100000 in
set_option maxHeartbeats 1000000 in
theorem read_edge (g N p : Nat) (w : World) (hp : p + 4 = N) (hc : N ≤ 8388608)
    (c0 : w.cell? ⟨g, p, none⟩ = some (.int .u8 0)) (c1 : w.cell? ⟨g, p + 1, none⟩ = some (.int .u8 0)) (c2 : w.cell? ⟨g, p + 2, none⟩ = some (.int .u8 0)) (c3 : w.cell? ⟨g, p + 3, none⟩ = some (.int .u8 0)) :
    Calls Try.prog 11 #[.slice (some ⟨g, 0, none⟩) N N, .int .i64 p] w fun e w' => (∃ a q, e = .returned (.tuple #[.slice a 0 q, .bool false, .int .i64 ((p : Int) + 4), .bool true])) ∧ ∃ n, w' = w.drewN n := by
  subst hp
  have hor : bits .or .u32 (bits .or .u32 (bits .or .u32 0 0) 0) 0 = 0 := by
    have := join4 0 0 0 0 (by decide) (by decide) (by decide) (by decide) (by decide) (by decide) (by decide) (by decide)
    simpa using this
  have h1 : (p : Int) < ((p + 4 : Nat) : Int) := by omega
  have h2 : (p : Int) + 1 < ((p + 4 : Nat) : Int) := by omega
  have h3 : (p : Int) + 2 < ((p + 4 : Nat) : Int) := by omega
  have h4 : (p : Int) + 3 < ((p + 4 : Nat) : Int) := by omega
  go_enter Try.func11, Try.ntmps11
  go_wp2
  go_quiet (fail)
  go_wp2_with fail
  exact bodyPost_ret (v := .tuple #[.slice (some ⟨g, 0, none⟩) 0 (p + 4 - (p + 4)), .bool false, .int .i64 ((p : Int) + 4), .bool true]) (by simp [results, Try.results11, go_sem]) rfl ⟨⟨_, _, rfl⟩, nq, rfl⟩

theorem wrap_all : wrap32 4294967295 = -1 := by
  unfold wrap32
  decide

set_option maxRecDepth 100000 in
set_option maxHeartbeats 1000000 in
theorem read_nil (g N cap p : Nat) (b0 b1 b2 b3 : Int) (w : World) (hp : p + 4 ≤ N) (hN : N ≤ cap) (hc : N ≤ 8388608) (hcc : cap ≤ 9223372036854775807)
    (r0 : 0 ≤ b0) (r0' : b0 < 256) (r1 : 0 ≤ b1) (r1' : b1 < 256) (r2 : 0 ≤ b2) (r2' : b2 < 256) (r3 : 0 ≤ b3) (r3' : b3 < 256)
    (hor : bits .or .u32 (bits .or .u32 (bits .or .u32 (b0 * 16777216) (b1 * 65536)) (b2 * 256)) b3 = 4294967295)
    (c0 : w.cell? ⟨g, p, none⟩ = some (.int .u8 b0)) (c1 : w.cell? ⟨g, p + 1, none⟩ = some (.int .u8 b1)) (c2 : w.cell? ⟨g, p + 2, none⟩ = some (.int .u8 b2)) (c3 : w.cell? ⟨g, p + 3, none⟩ = some (.int .u8 b3)) :
    Calls Try.prog 11 #[.slice (some ⟨g, 0, none⟩) N cap, .int .i64 p] w fun e w' => e = .returned (.tuple #[.slice none 0 0, .bool true, .int .i64 ((p : Int) + 4), .bool true]) ∧ ∃ n, w' = w.drewN n := by
  have h1 : (p : Int) < (N : Int) := by omega
  have h2 : (p : Int) + 1 < (N : Int) := by omega
  have h3 : (p : Int) + 2 < (N : Int) := by omega
  have h4 : (p : Int) + 3 < (N : Int) := by omega
  have hw := wrap_all
  go_enter Try.func11, Try.ntmps11
  go_wp2
  go_quiet (fail)
  go_wp2_with fail
  exact bodyPost_ret (v := .tuple #[.slice none 0 0, .bool true, .int .i64 ((p : Int) + 4), .bool true]) (by simp [results, Try.results11, go_sem]) rfl ⟨rfl, nq, rfl⟩

/-- One frame read back: the buffer holds 'done', then the frame of a slice (its address a, its bytes zs), then 'rest'. -/
theorem read_any {g N cap p : Nat} {done rest zs : List Int} {a : Option Addr} {w : World} (hs : Sees w (some ⟨g, 0, none⟩) (done ++ (encOf a zs ++ rest))) (hl : (done ++ (encOf a zs ++ rest)).length = N) (hd : done.length = p)
    (hN : N ≤ cap) (hc : N ≤ 8388608) (hcc : cap ≤ maxLen) (hz : zs.length ≤ 1048576) (ha : a = none → zs = []) :
    Calls Try.prog 11 #[.slice (some ⟨g, 0, none⟩) N cap, .int .i64 p] w fun e w' => (∃ a' q, e = .returned (.tuple #[.slice a' zs.length q, .bool a.isNone, .int .i64 ((p : Int) + 4 + (zs.length : Int)), .bool true]) ∧ Sees w a' zs) ∧ ∃ n, w' = w.drewN n := by
  unfold maxLen at hcc
  have ht := hs.tail hd
  have hlen : p + (4 + zs.length + rest.length) = N := by rw [← hl, List.length_append, List.length_append, encOf_len ha, hd]
  have hcell : ∀ j, j < (encOf a zs ++ rest).length → w.cell? ⟨g, p + j, none⟩ = some (.int .u8 ((encOf a zs ++ rest).getD j 0)) := by
    rcases ht with h | ⟨b, off, e, h⟩
    · intro j hj; rw [h] at hj; simp at hj
    · simp only [Option.some.injEq, Addr.mk.injEq, and_true] at e
      obtain ⟨rfl, rfl⟩ := e
      intro j hj
      have := h j hj
      simpa using this
  cases a with
  | none =>
    have hz' : zs = [] := ha rfl
    subst hz'
    have e : encOf none [] ++ rest = [255, 255, 255, 255] ++ rest := rfl
    rw [e] at hcell
    have hor := join4 255 255 255 255 (by decide) (by decide) (by decide) (by decide) (by decide) (by decide) (by decide) (by decide)
    refine (read_nil g N cap p 255 255 255 255 w (by simp at hlen; omega) hN hc (by omega) (by decide) (by decide) (by decide) (by decide) (by decide) (by decide) (by decide) (by decide) hor (hcell 0 (by simp)) (hcell 1 (by simp)) (hcell 2 (by simp)) (hcell 3 (by simp))).mono fun e w' ⟨h1, h2⟩ => ⟨⟨none, 0, ?_, .inl rfl⟩, h2⟩
    rw [h1]
    simp
  | some x =>
    have e : encOf (some x) zs ++ rest = [(zs.length : Int) / 16777216, (zs.length : Int) / 65536 % 256, (zs.length : Int) / 256 % 256, (zs.length : Int) % 256] ++ (zs ++ rest) := by simp [encOf, be4]
    rw [e] at hcell
    have hor := join4 ((zs.length : Int) / 16777216) ((zs.length : Int) / 65536 % 256) ((zs.length : Int) / 256 % 256) ((zs.length : Int) % 256) (by omega) (by omega) (by omega) (by omega) (by omega) (by omega) (by omega) (by omega)
    rw [show (zs.length : Int) / 16777216 * 16777216 + (zs.length : Int) / 65536 % 256 * 65536 + (zs.length : Int) / 256 % 256 * 256 + (zs.length : Int) % 256 = (zs.length : Int) by omega] at hor
    by_cases hlt : p + 4 < cap
    · refine (read_some g N cap p zs.length _ _ _ _ w (by omega) hN hc (by omega) hz hlt (by omega) (by omega) (by omega) (by omega) (by omega) (by omega) (by omega) (by omega) hor (hcell 0 (by simp)) (hcell 1 (by simp)) (hcell 2 (by simp)) (hcell 3 (by simp))).mono fun e' w' ⟨⟨q, h1⟩, h2⟩ => ⟨⟨_, q, h1, ?_⟩, h2⟩
      rw [e] at ht
      rw [Nat.zero_add] at ht
      exact (ht.tail rfl).head
    · have hz0 : zs.length = 0 := by omega
      have hz' : zs = [] := List.eq_nil_of_length_eq_zero hz0
      subst hz'
      have hcN : cap = N := by simp at hlen; omega
      subst hcN
      refine (read_edge g cap p w (by simp at hlen; omega) hc (hcell 0 (by simp)) (hcell 1 (by simp)) (hcell 2 (by simp)) (hcell 3 (by simp))).mono fun e w' ⟨⟨a', q, h1⟩, h2⟩ => ⟨⟨a', q, ?_, .inl rfl⟩, h2⟩
      rw [h1]
      simp

theorem read_at {g N cap p n : Nat} {done rest zs : List Int} {a : Option Addr} {w : World} (hn : zs.length = n) (hs : Sees w (some ⟨g, 0, none⟩) (done ++ (encOf a zs ++ rest))) (hl : (done ++ (encOf a zs ++ rest)).length = N) (hd : done.length = p)
    (hN : N ≤ cap) (hc : N ≤ 8388608) (hcc : cap ≤ maxLen) (hz : n ≤ 1048576) (ha : a = none → zs = []) :
    Calls Try.prog 11 #[.slice (some ⟨g, 0, none⟩) N cap, .int .i64 p] w fun e w' => ∃ a' q k, e = .returned (.tuple #[.slice a' n q, .bool a.isNone, .int .i64 ((p : Int) + 4 + (n : Int)), .bool true]) ∧ Sees w a' zs ∧ w' = w.drewN k := by
  subst hn
  exact (read_any hs hl hd hN hc hcc hz ha).mono fun e w' ⟨⟨a', q, h1, h2⟩, k, h3⟩ => ⟨a', q, k, h1, h2, h3⟩
end Go.Proofs.Qxb6626004a
