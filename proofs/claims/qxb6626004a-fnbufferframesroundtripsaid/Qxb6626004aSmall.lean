/-
  'lawCloneBytes', 'ZZnewEncoder', 'ZZbuf', 'lawEqualBytes', the guards on lengths.
-/
import Derived.Test.Qxb6626004aApp
namespace Go.Proofs.Qxb6626004a
open Go.RowKit
set_option linter.unusedVariables false

theorem ret_bool {a b : Bool} (h : a = b) : Ending.returned (.bool a) = .returned (.bool b) := by rw [h]

/-- A slice of bytes that came in holds zs. -/
def Src (w : World) (a : Option Addr) (zs : List Int) : Prop :=
  (a = none → zs = []) ∧ ∀ ad j u, a = some ad → (u8s zs)[j]? = some u → w.cell? (ad.add j) = some u

theorem u8s_at {zs : List Int} {j : Nat} (h : j < zs.length) : (u8s zs)[j]? = some (.int .u8 (zs.getD j 0)) := by
  simp [u8s, h]

theorem Src.later {w w' : World} {a : Option Addr} {zs : List Int} {B : Nat} (hB : w.heap.size ≤ B) (h : Src w a zs) (hb : Below B w w') : Src w' a zs :=
  ⟨h.1, fun ad j u h1 h2 => by
    have := h.2 ad j u h1 h2
    have hl := cell_lt this
    rw [hb.cell (by omega)]; exact this⟩

theorem Src.sees {w : World} {a : Option Addr} {zs : List Int} (h : Src w a zs) : Sees w a zs := by
  by_cases h0 : zs = []
  · exact .inl h0
  · cases ha : a with
    | none => exact absurd (h.1 ha) h0
    | some ad =>
      have hp : 0 < zs.length := by
        rcases Nat.eq_zero_or_pos zs.length with h' | h'
        · exact absurd (List.eq_nil_of_length_eq_zero h') h0
        · exact h'
      have c0 := h.2 ad 0 _ ha (u8s_at hp)
      obtain ⟨b, off, spot⟩ := ad
      have hs : spot = none := by simpa [Addr.add] using World.cell?_spot c0
      subst hs
      refine .inr ⟨b, off, rfl, fun j hj => ?_⟩
      have := h.2 _ j _ ha (u8s_at hj)
      have e : (⟨b, off, none⟩ : Addr).add j = ⟨b, off + j, none⟩ := by
        unfold Addr.add
        split
        · rename_i e; subst e; rfl
        · rfl
      rw [e] at this
      exact this

theorem own_sees {w : World} {B n : Nat} {g : Option Addr} {c : Nat} {zs : List Int} (h : w.ownsRow B 5 1 (.slice g n c) n (u8s zs)) : Sees w g zs := by
  by_cases h0 : zs = []
  · exact .inl h0
  · have hl := h.1
    rw [u8s_len] at hl
    rcases h.2 with ⟨e, e'⟩ | ⟨g', c', cur, e, _⟩
    · exact absurd (List.eq_nil_of_length_eq_zero (by omega)) h0
    · simp only [Value.slice.injEq, true_and] at e
      obtain ⟨rfl, rfl⟩ := e
      refine .inr ⟨g', 0, rfl, fun j hj => ?_⟩
      have := h.cellAt j (by omega)
      rw [u8s_at hj] at this
      simpa using this

/-- The first n places agree. -/
def allEq (n : Nat) (X Y : Nat → Int) : Bool := (List.range n).all fun j => X j == Y j

theorem allEq_true {n : Nat} {X Y : Nat → Int} (h : ∀ j, j < n → X j = Y j) : true = allEq n X Y := by
  symm
  unfold allEq
  rw [List.all_eq_true]
  intro j hj
  rw [beq_iff_eq]
  exact h j (List.mem_range.1 hj)

theorem allEq_false {n k : Nat} {X Y : Nat → Int} (hk : k < n) (h : (X k != Y k) = true) : false = allEq n X Y := by
  symm
  unfold allEq
  rw [List.all_eq_false]
  exact ⟨k, List.mem_range.2 hk, by simpa using h⟩

theorem allEq_lists {xs ys : List Int} (h : xs.length = ys.length) : allEq xs.length (fun j => xs.getD j 0) (fun j => ys.getD j 0) = decide (xs = ys) := by
  have hi : allEq xs.length (fun j => xs.getD j 0) (fun j => ys.getD j 0) = true ↔ ∀ j, j < xs.length → xs.getD j 0 = ys.getD j 0 := by
    unfold allEq
    simp [List.all_eq_true]
  rw [Bool.eq_iff_iff, hi, decide_eq_true_eq]
  constructor
  · intro hh
    apply List.ext_getElem h
    intro i h1 h2
    have := hh i h1
    simpa [h1, h2] using this
  · rintro rfl j _
    rfl

theorem drawn_on {w wr : World} (h : ∃ n, wr = w.drewN n) (m : Nat) : ∃ n, wr.drewN m = w.drewN n := by
  obtain ⟨n, rfl⟩ := h
  exact ⟨n + m, World.drewN_drewN ..⟩

set_option maxHeartbeats 400000 in
theorem eq_same (b1 o1 b2 o2 n c1 c2 : Nat) (X Y : Nat → Int) (w : World) (hn : n ≤ maxLen)
    (hX : ∀ j, j < n → w.cell? ⟨b1, o1 + j, none⟩ = some (.int .u8 (X j))) (hY : ∀ j, j < n → w.cell? ⟨b2, o2 + j, none⟩ = some (.int .u8 (Y j))) :
    Calls Try.prog 10 #[.slice (some ⟨b1, o1, none⟩) n c1, .slice (some ⟨b2, o2, none⟩) n c2] w fun e w' => e = .returned (.bool (allEq n X Y)) ∧ ∃ n, w' = w.drewN n := by
  unfold maxLen at hn
  have HX : Hid (∀ j, j < n → w.cell? ⟨b1, o1 + j, none⟩ = some (.int .u8 (X j))) := hX
  have HY : Hid (∀ j, j < n → w.cell? ⟨b2, o2 + j, none⟩ = some (.int .u8 (Y j))) := hY
  clear hX hY
  have hne : ((n : Int) != (n : Int)) = false := by simp
  go_enter Try.func10, Try.ntmps10
  go_wp2
  go_loopw [5] (fun i wr => ∃ k : Nat, k ≤ n ∧ i = .int .i64 k ∧ (∀ j, j < k → X j = Y j) ∧ ∃ m, wr = w.drewN m) (fun i _ => n - (intOf i).toNat)
  case atStart => exact ⟨0, Nat.zero_le _, rfl, fun j h => absurd h (Nat.not_lt_zero j), 0, rfl⟩
  case round =>
    obtain ⟨k, hk, rfl, hag, hw⟩ := hrel
    have HA : Hid (∀ j, j < k → X j = Y j) := hag
    have HW : Hid (∃ m, wr = w.drewN m) := hw
    clear hag hw
    by_cases hlt : k < n
    · have cX : wr.cell? ⟨b1, o1 + k, none⟩ = some (.int .u8 (X k)) := by
        obtain ⟨m, rfl⟩ := HW.out; exact HX.out k hlt
      have cY : wr.cell? ⟨b2, o2 + k, none⟩ = some (.int .u8 (Y k)) := by
        obtain ⟨m, rfl⟩ := HW.out; exact HY.out k hlt
      have hlt' : (k : Int) < (n : Int) := by omega
      cases hxy : (X k != Y k) with
      | true =>
        go_wp2
        go_quiet (fail)
        go_wp2
        go_ret
        exact ⟨ret_bool (allEq_false hlt hxy), drawn_on HW.out _⟩
      | false =>
        have HR : Hid (∀ j, j < k + 1 → X j = Y j) := by
          intro j hj
          by_cases e : j = k
          · subst e; simpa using hxy
          · exact HA.out j (by omega)
        go_wp2
        go_quiet (fail)
        go_wp2
        go_roundw
        case rel => exact ⟨k + 1, by omega, by go_num, HR.out, drawn_on HW.out _⟩
        case measure => simp [intOf]; omega
    · have hkk : k = n := by omega
      subst hkk
      go_wp2
      go_ret
      exact ⟨ret_bool (allEq_true HA.out), HW.out⟩

theorem eq_off (a b : Option Addr) (n m ca cb : Nat) (w : World) (h : ¬ n = m) :
    Calls Try.prog 10 #[.slice a n ca, .slice b m cb] w fun e w' => e = .returned (.bool false) ∧ ∃ n, w' = w.drewN n := by
  have hne : ((n : Int) != (m : Int)) = true := by simp; omega
  go_enter Try.func10, Try.ntmps10
  go_wp2
  go_ret
  exact ⟨rfl, 0, rfl⟩

theorem eq_nil (a b : Option Addr) (ca cb : Nat) (w : World) :
    Calls Try.prog 10 #[.slice a 0 ca, .slice b 0 cb] w fun e w' => e = .returned (.bool true) ∧ ∃ n, w' = w.drewN n := by
  go_enter Try.func10, Try.ntmps10
  go_wp2
  go_loop [5] (fun i => i = .int .i64 0) (fun _ => 0)
  case atStart => rfl
  case round =>
    subst hrel
    go_wp2
    go_ret
    exact ⟨rfl, 0, rfl⟩

theorem eq_any {a b : Option Addr} {n m ca cb : Nat} {xs ys : List Int} {w : World} (hn : xs.length = n) (hm : ys.length = m) (hs : n ≤ maxLen) (hA : Sees w a xs) (hB : Sees w b ys) :
    Calls Try.prog 10 #[.slice a n ca, .slice b m cb] w fun e w' => e = .returned (.bool (decide (xs = ys))) ∧ ∃ n, w' = w.drewN n := by
  by_cases hl : n = m
  · by_cases h0 : xs = []
    · subst h0
      obtain rfl : ys = [] := List.eq_nil_of_length_eq_zero (by simp at hn; omega)
      simp at hn hm
      subst hn hm
      exact eq_nil a b ca cb w
    · rcases hA with h | ⟨b1, o1, rfl, cA⟩
      · exact absurd h h0
      · rcases hB with h | ⟨b2, o2, rfl, cB⟩
        · subst h
          exact absurd (List.eq_nil_of_length_eq_zero (by simp at hm; omega)) h0
        · subst hl
          rw [← allEq_lists (by omega), hn]
          rw [hn] at cA
          rw [hm] at cB
          exact eq_same b1 o1 b2 o2 n ca cb (fun j => xs.getD j 0) (fun j => ys.getD j 0) w hs cA cB
  · have : decide (xs = ys) = false := decide_eq_false (fun h => hl (by rw [← hn, ← hm, h]))
    rw [this]
    exact eq_off a b n m ca cb w hl

theorem guard12_any (a b d : Option Addr) (n m l ca cb cd : Nat) (w : World) (hn : n ≤ maxLen) (hm : m ≤ maxLen) (hl : l ≤ maxLen) :
    Calls Try.prog 12 #[.slice a n ca, .slice b m cb, .slice d l cd] w fun e w' => e = .returned (.bool (decide (n + m + l ≤ 1048576))) ∧ w = w' := by
  unfold maxLen at hn hm hl
  by_cases h1 : n ≤ 1048576
  · by_cases h2 : m ≤ 1048576
    · by_cases h3 : n + m ≤ 1048576
      · by_cases h4 : l ≤ 1048576
        · by_cases h5 : n + m + l ≤ 1048576
          all_goals
            go_enter Try.func12, Try.ntmps12
            go_wp2
            go_ret
            exact ⟨ret_bool (by simp; omega), rfl⟩
        · go_enter Try.func12, Try.ntmps12
          go_wp2
          go_ret
          exact ⟨ret_bool (by simp; omega), rfl⟩
      · go_enter Try.func12, Try.ntmps12
        go_wp2
        go_ret
        exact ⟨ret_bool (by simp; omega), rfl⟩
    · go_enter Try.func12, Try.ntmps12
      go_wp2
      go_ret
      exact ⟨ret_bool (by simp; omega), rfl⟩
  · go_enter Try.func12, Try.ntmps12
    go_wp2
    go_ret
    exact ⟨ret_bool (by simp; omega), rfl⟩

theorem guard5_any (a b d : Option Addr) (n m l ca cb cd : Nat) (w : World) (hn : n ≤ maxLen) (hm : m ≤ maxLen) (hl : l ≤ maxLen) :
    Calls Try.prog 5 #[.slice a n ca, .slice b m cb, .slice d l cd] w fun e w' => e = .returned (.bool (decide (n + m + l ≤ 1048576))) ∧ w = w' := by
  unfold maxLen at hn hm hl
  by_cases h1 : n ≤ 1048576
  · by_cases h2 : m ≤ 1048576
    · by_cases h3 : n + m ≤ 1048576
      · by_cases h4 : l ≤ 1048576
        · by_cases h5 : n + m + l ≤ 1048576
          all_goals
            go_enter Try.func5, Try.ntmps5
            go_wp2
            go_ret
            exact ⟨ret_bool (by simp; omega), rfl⟩
        · go_enter Try.func5, Try.ntmps5
          go_wp2
          go_ret
          exact ⟨ret_bool (by simp; omega), rfl⟩
      · go_enter Try.func5, Try.ntmps5
        go_wp2
        go_ret
        exact ⟨ret_bool (by simp; omega), rfl⟩
    · go_enter Try.func5, Try.ntmps5
      go_wp2
      go_ret
      exact ⟨ret_bool (by simp; omega), rfl⟩
  · go_enter Try.func5, Try.ntmps5
    go_wp2
    go_ret
    exact ⟨ret_bool (by simp; omega), rfl⟩

theorem own_block {w : World} {B e g n : Nat} {xs : List Value} (h : w.ownsRow B e 1 (.slice (some ⟨g, 0, none⟩) n n) n xs) : w.heap[g]? = some (.cells xs.toArray e (0, 0)) := by
  rcases h.2 with ⟨h', _⟩ | ⟨g', cap', cur, h', _, hg, _, _, hs, ht⟩
  · cases h'
  · simp only [Value.slice.injEq, Option.some.injEq, Addr.mk.injEq, and_true, true_and] at h'
    obtain ⟨rfl, rfl⟩ := h'
    rw [hg]
    have : cur.toList = xs := by
      rw [← ht, List.take_of_length_le (by simp [hs])]
    rw [← this]

theorem own_of_block {w : World} {B e g n : Nat} {xs : List Value} (hg : w.heap[g]? = some (.cells xs.toArray e (0, 0))) (hB : B ≤ g) (hl : xs.length = n) (hn : n ≤ maxLen) : w.ownsRow B e 1 (.slice (some ⟨g, 0, none⟩) n n) n xs :=
  ⟨by omega, .inr ⟨g, n, xs.toArray, rfl, hB, hg, Nat.le_refl _, hn, by simp [hl], by simp [← hl]⟩⟩

theorem splice_all {xs cs : List Value} (h : xs.length = cs.length) : splice xs 0 cs = cs := by
  unfold splice
  simp [← h]

theorem own_copied {w : World} {B g n : Nat} {cs : List Value} (hg : w.heap[g]? = some (.cells (splice (madeCells #[Value.int .u8 0] n).toList 0 cs).toArray 5 (0, 0))) (hB : B ≤ g) (hl : cs.length = n) (hn : n ≤ maxLen) :
    w.ownsRow B 5 1 (.slice (some ⟨g, 0, none⟩) n n) n cs := by
  rw [splice_all (by rw [toList_madeCells_one]; simp [hl])] at hg
  exact own_of_block hg hB hl hn

theorem clone_nil (n c : Nat) (w : World) :
    Calls Try.prog 7 #[.slice none n c] w fun e w' => e = .returned (.slice none 0 0) ∧ w = w' := by
  have q22 : ∀ (w : World) (a : Option Addr) (n c n' c' : Nat), (binOp .eql 22 (.slice a n c) (.slice none n' c')).run Try.prog w = .ok (.bool a.isNone) w := fun w a n c n' c' => Lib.run_eql_slice_nil w _ _ a n c n' c' Try.underlying22
  go_enter Try.func7, Try.ntmps7
  go_wp2
  go_ret
  exact ⟨rfl, rfl⟩

set_option maxRecDepth 100000 in
set_option maxHeartbeats 400000 in
theorem clone_some (x : Addr) (n c : Nat) (zs : List Int) (w : World) (hz : zs.length = n) (hn : n ≤ 1048576) (hs : Src w (some x) zs) :
    Calls Try.prog 7 #[.slice (some x) n c] w fun e w' => e = .returned (.slice (some ⟨w.heap.size, 0, none⟩) n n) ∧ w'.ownsRow w.heap.size 5 1 (.slice (some ⟨w.heap.size, 0, none⟩) n n) n (u8s zs) ∧ Below w.heap.size w w' := by
  have q22 : ∀ (w : World) (a : Option Addr) (n c n' c' : Nat), (binOp .eql 22 (.slice a n c) (.slice none n' c')).run Try.prog w = .ok (.bool a.isNone) w := fun w a n c n' c' => Lib.run_eql_slice_nil w _ _ a n c n' c' Try.underlying22
  obtain ⟨i0, hi, hz0, hz1, hz2⟩ := info_parts info5
  have HS : Hid (Src w (some x) zs) := hs
  have HZ : Hid (zs.length = n) := hz
  clear hs hz
  have hm : n ≤ maxLen := by unfold maxLen; omega
  go_enter Try.func7, Try.ntmps7
  go_wp2_with (first
    | (at_make; refine wpList_make_full _ rfl _ _ 22 rfl w.heap.size 5 i0 (.int .u8 0) 1 Try.underlying22 hi hz0 hz1 _ _ _ _ n rfl rfl rfl rfl (by rw [hz2]; omega) hm (Nat.le_refl _) ?_; intro x1 hown1 hgrow1)
    | (refine wpList_copy_splice rfl (.tmp 9) (.tmp 10) 22 22 rfl 5 Try.underlying22 (by simp [hi, hz1]) _ _ _ _ _ _ rfl rfl _ 0 _ 5 (own_block hown1) (u8s zs) ?_ ?_ ?_ (u8s_one _) w.heap.size w ((Below.refl _ _).grown hgrow1 (Nat.le_refl _) (fun k hk => by cases hk)) (Nat.le_refl _) ?_))
  · rw [u8s_len, HZ.out]; exact (Nat.min_self _).symm
  · intro hp
    exact fun j v hj => hgrow1.cell (HS.out.2 x j v rfl hj) (by simp)
  · rw [u8s_len, HZ.out, Nat.zero_add, Nat.mul_one]; exact Nat.le_of_eq (by rw [show (Value.int IntKind.u8 0).cells = #[Value.int IntKind.u8 0] from rfl, toList_madeCells_one]; simp)
  · intro x2 hx2 hbx2
    have HX := own_copied (B := w.heap.size) hx2.out (Nat.le_refl _) (by rw [u8s_len, HZ.out]) hm
    clear hx2 hown1 hgrow1
    have HX' : Hid (x2.ownsRow w.heap.size 5 1 (.slice (some ⟨w.heap.size, 0, none⟩) n n) n (u8s zs)) := HX
    clear HX
    go_wp2
    go_ret
    exact ⟨rfl, HX'.out, hbx2⟩

theorem newEnc_any (B : Nat) (a : Option Addr) (n c : Nat) (xs : List Int) (w : World) (hB : B ≤ w.heap.size) (hl : xs.length = n) (ho : w.ownsRow B 5 1 (.slice a n c) n (u8s xs)) :
    Calls Try.prog 6 #[.slice a n c] w fun e w' => e = .returned (.pointer (some ⟨w.heap.size, 0, none⟩)) ∧ Enc B w.heap.size w' (.slice a n c) xs ∧ Below w.heap.size w w' := by
  have HO : Hid (w.ownsRow B 5 1 (.slice a n c) n (u8s xs)) := ho
  have HL : Hid (xs.length = n) := hl
  clear ho hl
  go_enter Try.func6, Try.ntmps6
  go_wp2
  go_ret
  exact ⟨rfl, ⟨hB, heap_alloc_new w _, by rw [HL.out]; exact HO.out.alloc _⟩, (Below.refl _ _).alloc (Nat.le_refl _) _⟩

theorem buf_any (B E : Nat) (bv : Value) (xs : List Int) (w : World) (hE : Enc B E w bv xs) :
    Calls Try.prog 9 #[.pointer (some ⟨E, 0, none⟩)] w fun e w' => e = .returned bv ∧ w = w' := by
  have hc := hE.cell
  obtain ⟨a, c, rfl⟩ := own_shape hE.own
  clear hE
  go_enter Try.func9, Try.ntmps9
  go_wp2
  go_ret
  exact ⟨rfl, rfl⟩

/-- 'ZZnewEncoder(lawCloneBytes(pre))', the two calls one behind the other, and 'Buffer' behind them: told of the slice as it came in. -/
theorem buffer_any {B E : Nat} {bv : Value} {xs : List Int} {a : Option Addr} {n c : Nat} {zs : List Int} {w w0 : World} (hB : B ≤ w.heap.size) (hn : xs.length ≤ 2097152) (hE : Enc B E w bv xs)
    (hz : zs.length = n) (hzn : n ≤ 1048576) (hs : Src w0 a zs) (hw : w0.heap.size ≤ B) (hb : Below w0.heap.size w0 w) :
    Calls Try.prog 8 #[.pointer (some ⟨E, 0, none⟩), .slice a n c] w fun e w' => e = .returned (.tuple #[]) ∧ ∃ bv, Enc B E w' bv (xs ++ encOf a zs) ∧ Below B w w' := by
  cases a with
  | none => exact buffer_nil B E bv xs n c w hB (by omega) hE
  | some x =>
    have hs' := hs.later (Nat.le_refl _) hb
    refine (buffer_some B E bv xs x n c zs w hB hn hE hz hzn (fun h => ?_) (fun j u hj => hs'.2 x j u rfl hj)).mono fun e w' ⟨h1, bv', h2, h3⟩ => ⟨h1, bv', ?_, h3⟩
    · have := cell_lt (hs.2 x 0 _ rfl (u8s_at (by omega)))
      rw [add_block] at this
      omega
    · have : encOf (some x) zs = be4 (n : Int) ++ zs := by simp [encOf, hz]
      rw [this]
      exact h2
end Go.Proofs.Qxb6626004a
