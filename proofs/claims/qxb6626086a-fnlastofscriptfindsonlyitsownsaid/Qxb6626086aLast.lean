/-
  '(*nodeClimbs).last'.
-/
import Derived.Test.Qxb6626086aBase
import Derived.Maps.OwnOps
import Derived.WalkSpells
import Derived.RegionTactic
namespace Go.Proofs.Qxb6626086a
open Go.RowKit Go.Maps
set_option linter.unusedVariables false

theorem law9 : Keyed Try.prog 9 := string_keyed Try.underlying9
theorem zero3 (w : World) : (zeroValue 3).run Try.prog w = .ok (.int .i64 0) w := by kernel_rfl

def ptrOf (S : Nat) : Option Nat → Value
  | Option.none => .pointer Option.none
  | some i => .pointer (some ⟨S, i * 37, Option.none⟩)

theorem lastIdx_lt {I : Nat → ByteArray} {s : ByteArray} : ∀ {k i : Nat}, lastIdx I s k = some i → i < k ∧ I i = s
  | 0, _, h => by cases h
  | k + 1, i, h => by
    unfold lastIdx at h
    split at h
    · cases h; exact ⟨Nat.lt_succ_self _, by assumption⟩
    · have := lastIdx_lt h; exact ⟨by omega, this.2⟩

theorem full_zero (I : Nat → ByteArray) : Full (.map []) I 0 := fun s => ⟨rfl, fun z => rfl⟩

theorem full_next {D : DataW Unit} {I : Nat → ByteArray} {k : Nat} (h : Full D I k) (hD : IsMap D) : Full (D.put (.string (I k).data.toList) (.lit (.int .i64 k))) I (k + 1) := by
  intro s
  by_cases e : I k = s
  · subst e
    constructor
    · rw [has_put_same hD (show WideAt.IsKeyLit (.string (I k).data.toList) from trivial)]
      simp [lastIdx]
    · intro z
      rw [atKey_put_same hD (show WideAt.IsKeyLit (.string (I k).data.toList) from trivial)]
      simp [lastIdx]
  · have hne : (Lit.string s.data.toList) ≠ .string (I k).data.toList := by
      intro c
      apply e
      simp only [Lit.string.injEq] at c
      exact (WideShapes.bytes_inj c).symm
    constructor
    · rw [has_put_other hne, (h s).1]
      simp [lastIdx, e]
    · intro z
      rw [atKey_put_other hne, (h s).2 z]
      simp [lastIdx, e]

theorem size_pos {D : DataW Unit} {I : Nat → ByteArray} {n : Nat} (h : Full D I n) (hD : IsMap D) (hn : 0 < n) : 0 < Maps.size D := by
  obtain ⟨es, rfl⟩ := hD
  have hi : (lastIdx I (I (n - 1)) n).isSome = true := by
    obtain ⟨m, rfl⟩ : ∃ m, n = m + 1 := ⟨n - 1, by omega⟩
    simp [lastIdx]
  have := (h (I (n - 1))).1
  rw [hi, has_eq] at this
  rw [size_eq]
  cases es with
  | nil => simp at this
  | cons e r => simp

theorem size_zero {D : DataW Unit} {I : Nat → ByteArray} {w : World} {M : Nat} (h : w.ownsMap (H := Unit) Try.prog 9 (plainElem Try.prog 3) M 0 D) : Maps.size D = 0 := by
  have := h.size_le
  omega

section
variable (w : World) {ops : Array Oper} {rest : List Oper} {o : Oper} {a : Act} {Q : Exit → Act → World → Prop}

theorem wpList_look_hit (hg : o.guard = Option.none) (m x : Operand) (hop : o.op = Op.lookup 54 m x true) (M n : Nat) (D : DataW Unit) (I : Nat → ByteArray) (s : ByteArray) (i : Nat) (hs : s.size ≤ maxLen)
    (hm : a.eval m = .map (some M)) (hown : w.ownsMap (H := Unit) Try.prog 9 (plainElem Try.prog 3) M n D) (hF : Full D I n) (hx : a.eval x = .string s) (hi : lastIdx I s n = some i)
    (hK : wpList Try.prog ops Q rest (a.put o.dst (.tuple #[.int .i64 (i : Int), .bool true])) w) : wpList Try.prog ops Q (o :: rest) a w := by
  refine wpList_lookup_own_ok_int w hg m x 54 hop 9 3 .i64 law9 Try.underlying54 Try.underlying3 (zero3 _) M n D hm hown _ _ hx (WideMaps.keyOf_string_mk Try.underlying9 hs) (fun c hat hw => ?_)
  have h1 := (hF s).1
  have h2 := (hF s).2 (.lit (.int .i64 0))
  rw [hi] at h1 h2
  rw [h2] at hat
  have hc : (i : Int) = c := by simpa using hat
  rw [h1, ← hc]
  exact hK

theorem wpList_look_miss (hg : o.guard = Option.none) (m x : Operand) (hop : o.op = Op.lookup 54 m x true) (M n : Nat) (D : DataW Unit) (I : Nat → ByteArray) (s : ByteArray) (hs : s.size ≤ maxLen)
    (hm : a.eval m = .map (some M)) (hown : w.ownsMap (H := Unit) Try.prog 9 (plainElem Try.prog 3) M n D) (hF : Full D I n) (hx : a.eval x = .string s) (hi : lastIdx I s n = Option.none)
    (hK : wpList Try.prog ops Q rest (a.put o.dst (.tuple #[.int .i64 0, .bool false])) w) : wpList Try.prog ops Q (o :: rest) a w := by
  refine wpList_lookup_own_ok_int w hg m x 54 hop 9 3 .i64 law9 Try.underlying54 Try.underlying3 (zero3 _) M n D hm hown _ _ hx (WideMaps.keyOf_string_mk Try.underlying9 hs) (fun c hat hw => ?_)
  have h1 := (hF s).1
  have h2 := (hF s).2 (.lit (.int .i64 0))
  rw [hi] at h1 h2
  rw [h2] at hat
  have hc : (0 : Int) = c := by simpa using hat
  rw [h1, ← hc]
  exact hK
end

theorem Climb.cell0 {w : World} {NC S n : Nat} {I : Nat → ByteArray} {mv : Value} (h : Climb w NC S n I mv) : w.cell? ⟨NC, 0, Option.none⟩ = some (.slice (some ⟨S, 0, Option.none⟩) n n) := by
  obtain ⟨cs, hb, h0, _⟩ := h.nc
  rw [cell_of_row w NC 0 cs 57 (0, 0) hb]; exact h0
theorem Climb.cell12 {w : World} {NC S n : Nat} {I : Nat → ByteArray} {mv : Value} (h : Climb w NC S n I mv) : w.cell? ⟨NC, 12, Option.none⟩ = some mv := by
  obtain ⟨cs, hb, _, h0⟩ := h.nc
  rw [cell_of_row w NC 12 cs 57 (0, 0) hb]; exact h0
theorem Climb.frozen {w : World} {NC S n : Nat} {I : Nat → ByteArray} {mv : Value} (h : Climb w NC S n I mv) (j : Nat) : w.frozen? ⟨NC, j, Option.none⟩ = false := by
  obtain ⟨cs, hb, _⟩ := h.nc
  simp [World.frozen?, hb]

set_option maxHeartbeats 400000 in
theorem last_full_hit (NC S n M i : Nat) (I : Nat → ByteArray) (D : DataW Unit) (id : ByteArray) (w : World) (hid : id.size ≤ maxLen) (hn : n ≤ 65536) (hC : Climb w NC S n I (.map (some M)))
    (hown : w.ownsMap (H := Unit) Try.prog 9 (plainElem Try.prog 3) M n D) (hF : Full D I n) (hi : lastIdx I id n = some i) :
    Calls Try.prog 11 #[.pointer (some ⟨NC, 0, Option.none⟩), .string id] w fun e w' => e = .returned (.pointer (some ⟨S, i * 37, Option.none⟩)) ∧ w = w' := by
  have q54 : ∀ (w : World) (r : Option Nat), (binOp .eql 54 (.map r) (.map Option.none)).run Try.prog w = .ok (.bool r.isNone) w := fun w r => run_eql_map_nil w _ _ _ r Try.underlying54
  have c0 := hC.cell0
  have c12 := hC.cell12
  have hin := (lastIdx_lt hi).1
  have hsz := size_pos hF hown.isMap (by omega)
  have hsz' : ((Maps.size D : Int) == 0) = false := by simp; omega
  have HO : Hid (w.ownsMap (H := Unit) Try.prog 9 (plainElem Try.prog 3) M n D) := hown
  have HF : Hid (Full D I n) := hF
  have HI : Hid (lastIdx I id n = some i) := hi
  clear hC hown hF hi
  go_enter Try.func11, Try.ntmps11
  go_wp2_with (first
    | (at_len; refine wpList_len_own _ rfl _ 54 rfl 9 3 Try.underlying54 _ M n D rfl HO.out ?_)
    | (at_lookup; refine wpList_look_hit _ rfl _ _ rfl M n D I id i hid rfl HO.out HF.out rfl HI.out ?_))
  go_ret
  exact ⟨rfl, rfl⟩

set_option maxHeartbeats 400000 in
theorem last_full_miss (NC S n M : Nat) (I : Nat → ByteArray) (D : DataW Unit) (id : ByteArray) (w : World) (hid : id.size ≤ maxLen) (hn : n ≤ 65536) (h0 : 0 < n) (hC : Climb w NC S n I (.map (some M)))
    (hown : w.ownsMap (H := Unit) Try.prog 9 (plainElem Try.prog 3) M n D) (hF : Full D I n) (hi : lastIdx I id n = Option.none) :
    Calls Try.prog 11 #[.pointer (some ⟨NC, 0, Option.none⟩), .string id] w fun e w' => e = .returned (.pointer Option.none) ∧ w = w' := by
  have q54 : ∀ (w : World) (r : Option Nat), (binOp .eql 54 (.map r) (.map Option.none)).run Try.prog w = .ok (.bool r.isNone) w := fun w r => run_eql_map_nil w _ _ _ r Try.underlying54
  have c0 := hC.cell0
  have c12 := hC.cell12
  have hsz := size_pos hF hown.isMap h0
  have hsz' : ((Maps.size D : Int) == 0) = false := by simp; omega
  have HO : Hid (w.ownsMap (H := Unit) Try.prog 9 (plainElem Try.prog 3) M n D) := hown
  have HF : Hid (Full D I n) := hF
  have HI : Hid (lastIdx I id n = Option.none) := hi
  clear hC hown hF hi
  go_enter Try.func11, Try.ntmps11
  go_wp2_with (first
    | (at_len; refine wpList_len_own _ rfl _ 54 rfl 9 3 Try.underlying54 _ M n D rfl HO.out ?_)
    | (at_lookup; refine wpList_look_miss _ rfl _ _ rfl M n D I id hid rfl HO.out HF.out rfl HI.out ?_))
  go_ret
  exact ⟨rfl, rfl⟩

set_option maxHeartbeats 400000 in
theorem last_full_empty (NC S M : Nat) (I : Nat → ByteArray) (D : DataW Unit) (id : ByteArray) (w : World) (hid : id.size ≤ maxLen) (hC : Climb w NC S 0 I (.map (some M)))
    (hown : w.ownsMap (H := Unit) Try.prog 9 (plainElem Try.prog 3) M 0 D) (hF : Full D I 0) :
    Calls Try.prog 11 #[.pointer (some ⟨NC, 0, Option.none⟩), .string id] w fun e w' => e = .returned (.pointer Option.none) ∧ w = w' := by
  have q54 : ∀ (w : World) (r : Option Nat), (binOp .eql 54 (.map r) (.map Option.none)).run Try.prog w = .ok (.bool r.isNone) w := fun w r => run_eql_map_nil w _ _ _ r Try.underlying54
  have c0 := hC.cell0
  have c12 := hC.cell12
  have hsz := size_zero (I := I) hown
  have hsz' : ((Maps.size D : Int) == 0) = true := by simp; omega
  have HO : Hid (w.ownsMap (H := Unit) Try.prog 9 (plainElem Try.prog 3) M 0 D) := hown
  have HF : Hid (Full D I 0) := hF
  clear hC hown hF hsz
  go_enter Try.func11, Try.ntmps11
  go_wp2_with (first
    | (at_len; refine wpList_len_own _ rfl _ 54 rfl 9 3 Try.underlying54 _ M 0 D rfl HO.out ?_)
    | (at_lookup; refine wpList_look_miss _ rfl _ _ rfl M 0 D I id hid rfl HO.out HF.out rfl rfl ?_))
  go_loop [29] (fun i => i = .int .i64 0) (fun _ => 0)
  case atStart => rfl
  case round =>
    subst hrel
    go_wp2_with (at_lookup; refine wpList_look_miss _ rfl _ _ rfl M 0 D I id hid rfl HO.out HF.out rfl rfl ?_)
    go_ret
    exact ⟨rfl, rfl⟩

/-- What a store of a whole struct at a block's head leaves. -/
theorem heap_setCells_other (b : Nat) : ∀ (vs : List Value) (o : Nat) (w : World) (k : Nat), k ≠ b → (w.setCells b o vs).heap[k]? = w.heap[k]?
  | [], _, _, _, _ => rfl
  | v :: r, o, w, k, hk => by
    rw [World.setCells, heap_setCells_other b r (o + 1) _ k hk]
    exact Below.heap_setCell _ _ _ _ hk

theorem setCells_rest (b : Nat) : ∀ (vs : List Value) (o : Nat) (w : World), (w.setCells b o vs).os = w.os ∧ (w.setCells b o vs).tape = w.tape ∧ (w.setCells b o vs).output = w.output ∧ (w.setCells b o vs).heap.size = w.heap.size
  | [], _, _ => ⟨rfl, rfl, rfl, rfl⟩
  | v :: r, o, w => by
    rw [World.setCells]
    have := setCells_rest b r (o + 1) (w.setCell ⟨b, o, Option.none⟩ v)
    exact ⟨this.1, this.2.1, this.2.2.1, this.2.2.2.trans (by simp [World.setCell])⟩

theorem wpList_store_whole {ops : Array Oper} {rest : List Oper} {op : Oper} {a : Act} {w : World} {Q : Exit → Act → World → Prop} (hgd : op.guard = Option.none) (ty : TypeId) (x y : Operand) (ho : op.op = .store ty x y)
    (b : Nat) (cells : List Value) (hx : a.eval x = .pointer (some ⟨b, 0, Option.none⟩)) (hy : a.eval y = .agg cells.toArray)
    (ht : w.there b 0 cells.length) (hi : (Try.prog.info? ty).map (·.size) = some cells.length) (h1 : ∀ v ∈ cells, v.oneCell' = true)
    (h : ∀ w', w'.rangeAt b 0 cells → w.grownBy w' (some b) → w'.heap.size = w.heap.size → wpList Try.prog ops Q rest (a.put op.dst undef) w') : wpList Try.prog ops Q (op :: rest) a w := by
  refine wpList_store_mid hgd ty x y ho b 0 cells.toArray hx hy (by simpa using ht) (by simpa using hi) (all_oneCell_toArray h1) ?_
  have hr := setCells_rest b cells 0 w
  exact h _ (World.rangeAt_setCells_same w b 0 cells ht) ⟨hr.1, hr.2.1, hr.2.2.1, Nat.le_of_eq hr.2.2.2.symm, fun k _ hk => heap_setCells_other b cells 0 w k (fun e => hk (by rw [e]))⟩ hr.2.2.2

/-- The cells of one working set. -/
theorem sets_range {w : World} {S n : Nat} {I : Nat → ByteArray} (h : SetsTo w S n n I) {k : Nat} (hk : k < n) : ∃ cs : List Value, w.rangeAt S (k * 37) cs ∧ cs.length = 37 ∧ cs[0]? = some (.string (I k)) ∧ ∀ v ∈ cs, v.oneCell' = true := by
  obtain ⟨cur, hg, hs, hc, h1⟩ := h
  refine ⟨(cur.extract (k * 37) (k * 37 + 37)).toList, World.rangeAt_of_block hg _ _, ?_, ?_, ?_⟩
  · simp [hs]; omega
  · have := hc k hk
    rw [Array.getElem?_toList, Array.getElem?_extract]
    simp [hs, this]
    omega
  · intro v hv
    apply h1
    rw [Array.toList_extract] at hv
    exact List.mem_of_mem_drop (List.mem_of_mem_take hv)
end Go.Proofs.Qxb6626086a
