/-
  '(*nodeClimbs).last' where the map is not made yet: it is made and filled.
-/
import Derived.Test.Qxb6626086aLast
namespace Go.Proofs.Qxb6626086a
open Go.RowKit Go.Maps
set_option linter.unusedVariables false

/-- The map at block M, k working sets taken in. -/
structure Filling (w wr : World) (NC S n M k : Nat) (I : Nat → ByteArray) : Prop where
  map : ∃ D, wr.ownsMap (H := Unit) Try.prog 9 (plainElem Try.prog 3) M k D ∧ Full D I k
  nc : ∃ cs : Array Value, wr.heap[NC]? = some (.cells cs 57 (0, 0)) ∧ cs[0]? = some (.slice (some ⟨S, 0, Option.none⟩) n n) ∧ cs[12]? = some (.map (some M))
  sets : SetsTo wr S n n I
  grown : w.grownBy wr (some NC)
  ncM : NC < M
  sM : S < M

theorem Filling.cell12 {w wr : World} {NC S n M k : Nat} {I : Nat → ByteArray} (h : Filling w wr NC S n M k I) : wr.cell? ⟨NC, 12, Option.none⟩ = some (.map (some M)) := by
  obtain ⟨cs, hb, _, h0⟩ := h.nc
  rw [cell_of_row wr NC 12 cs 57 (0, 0) hb]; exact h0
theorem Filling.cell0 {w wr : World} {NC S n M k : Nat} {I : Nat → ByteArray} (h : Filling w wr NC S n M k I) : wr.cell? ⟨NC, 0, Option.none⟩ = some (.slice (some ⟨S, 0, Option.none⟩) n n) := by
  obtain ⟨cs, hb, h0, _⟩ := h.nc
  rw [cell_of_row wr NC 0 cs 57 (0, 0) hb]; exact h0

theorem Filling.climb {w wr : World} {NC S n M : Nat} {I : Nat → ByteArray} (h : Filling w wr NC S n M n I) : Climb wr NC S n I (.map (some M)) := by
  obtain ⟨D, h1, h2⟩ := h.map
  exact ⟨h.sets, h.nc, .inr ⟨M, D, rfl, h1, h2⟩⟩

theorem fill_start {w : World} {NC S n : Nat} {I : Nat → ByteArray} (h : Climb w NC S n I (.map Option.none)) :
    Filling w ((w.alloc (.map #[] 0)).setCell ⟨NC, 12, Option.none⟩ (.map (some w.heap.size))) NC S n w.heap.size 0 I := by
  obtain ⟨hs, ⟨cs, hb, h0, h12⟩, _⟩ := h
  have hNC := lt_of_block hb
  have hS := sets_lt hs
  have hb1 : (w.alloc (.map #[] 0)).heap[NC]? = some (.cells cs 57 (0, 0)) := by rw [Below.heap_alloc _ _ _ hNC]; exact hb
  have hSN : S ≠ NC := by
    rintro rfl
    obtain ⟨cur, hg, _⟩ := hs
    rw [hb] at hg
    simp at hg
  refine ⟨⟨_, (World.ownsMap_made w Try.prog 9 (plainElem Try.prog 3)).setCell (by simp; omega) _, full_zero I⟩, ⟨_, heap_setCell_same _ NC 12 cs 57 _ hb1, ?_, ?_⟩, ?_, ?_, hNC, hS⟩
  · rw [Array.getElem?_setIfInBounds_ne (by decide)]; exact h0
  · have : 12 < cs.size := by
      rcases Nat.lt_or_ge 12 cs.size with h | h
      · exact h
      · rw [Array.getElem?_eq_none h] at h12; cases h12
    rw [Array.getElem?_setIfInBounds_self_of_lt this]
  · refine hs.kept ?_
    rw [Below.heap_setCell _ _ _ _ hSN, Below.heap_alloc _ _ _ hS]
  · exact ⟨rfl, rfl, rfl, by simp [World.setCell], fun k hk hne => by
      rw [Below.heap_setCell _ _ _ _ (fun e => hne (by rw [e])), Below.heap_alloc _ _ _ hk]⟩

theorem fill_step {w wr w2 w3 : World} {NC S n M k : Nat} {I : Nat → ByteArray} {D : DataW Unit} (h : Filling w wr NC S n M k I) (hg2 : wr.grownBy w2 Option.none)
    (hF : Full D I k) (hD : IsMap D) (hown3 : w3.ownsMap (H := Unit) Try.prog 9 (plainElem Try.prog 3) M (k + 1) (D.put (.string (I k).data.toList) (.lit (.int .i64 k)))) (hg3 : w2.grownBy w3 (some M)) (hM : w.heap.size ≤ M) :
    Filling w w3 NC S n M (k + 1) I := by
  have keep : ∀ j, j < wr.heap.size → j ≠ M → w3.heap[j]? = wr.heap[j]? := fun j hj hne => by
    rw [hg3.block j (Nat.lt_of_lt_of_le hj hg2.size) (fun e => hne (by simpa using e)), hg2.block j hj (by simp)]
  obtain ⟨cs, hb, h0, h12⟩ := h.nc
  refine ⟨⟨_, hown3, full_next hF hD⟩, ⟨cs, ?_, h0, h12⟩, ?_, ?_, h.ncM, h.sM⟩
  · rw [keep NC (lt_of_block hb) (by have := h.ncM; omega)]; exact hb
  · exact h.sets.kept (keep S (sets_lt h.sets) (by have := h.sM; omega))
  · exact ⟨hg3.os.trans (hg2.os.trans h.grown.os), hg3.tape.trans (hg2.tape.trans h.grown.tape), hg3.output.trans (hg2.output.trans h.grown.output), Nat.le_trans h.grown.size (Nat.le_trans hg2.size hg3.size),
      fun j hj hne => (keep j (Nat.lt_of_lt_of_le hj h.grown.size) (by omega)).trans (h.grown.block j hj hne)⟩

theorem there_new (w : World) (C : Array Value) (t : TypeId) (n : Nat) (h : n ≤ C.size) : (w.alloc (.cells C t)).there w.heap.size 0 n := by
  intro j hj
  have hb : (w.alloc (.cells C t)).heap[w.heap.size]? = some (.cells C t (0, 0)) := heap_alloc_new w _
  rw [cell_of_row _ _ _ C t (0, 0) hb]
  refine ⟨?_, frozen_of_row _ _ _ C t hb⟩
  rw [Array.getElem?_eq_getElem (by omega)]; rfl

theorem grown_new {w w2 : World} {o : Obj} (h : (w.alloc o).grownBy w2 (some w.heap.size)) : w.grownBy w2 Option.none :=
  ⟨h.os, h.tape, h.output, Nat.le_trans (by simp) h.size, fun k hk _ => by
    rw [h.block k (by simp; omega) (by simp; omega), Below.heap_alloc _ _ _ hk]⟩

theorem sz48 : (Try.prog.info? 48).map (·.size) = some 37 := by kernel_rfl

theorem swap_alloc {w : World} {NC : Nat} {v : Value} {o : Obj} (h : NC < w.heap.size) : (w.alloc o).setCell ⟨NC, 12, Option.none⟩ v = (w.setCell ⟨NC, 12, Option.none⟩ v).alloc o := by
  exact World.setCell_alloc_past _ _ _ _ h

theorem fill_start' {w : World} {NC S n : Nat} {I : Nat → ByteArray} (h : Climb w NC S n I (.map Option.none)) :
    Filling w ((w.setCell ⟨NC, 12, Option.none⟩ (.map (some w.heap.size))).alloc (.map #[] 0)) NC S n w.heap.size 0 I := by
  have hNC : NC < w.heap.size := by obtain ⟨cs, hb, _⟩ := h.nc; exact lt_of_block hb
  rw [← swap_alloc hNC]
  exact fill_start h

set_option maxHeartbeats 1000000 in
theorem last_fill (NC S n : Nat) (I : Nat → ByteArray) (id : ByteArray) (w : World) (hid : id.size ≤ maxLen) (hn : n ≤ 65536) (hI : ∀ j, j < n → (I j).size ≤ maxLen) (hC : Climb w NC S n I (.map Option.none)) :
    Calls Try.prog 11 #[.pointer (some ⟨NC, 0, Option.none⟩), .string id] w fun e w' => e = .returned (ptrOf S (lastIdx I id n)) ∧ (∃ mv, Climb w' NC S n I mv) ∧ w.grownBy w' (some NC) := by
  have q54 : ∀ (w : World) (r : Option Nat), (binOp .eql 54 (.map r) (.map Option.none)).run Try.prog w = .ok (.bool r.isNone) w := fun w r => run_eql_map_nil w _ _ _ r Try.underlying54
  have hmm := @run_makeMap Try.prog
  have c0 := hC.cell0
  have c12 := hC.cell12
  have f12 := hC.frozen 12
  have HF0 : Hid (Filling w ((w.setCell ⟨NC, 12, Option.none⟩ (.map (some w.heap.size))).alloc (.map #[] 0)) NC S n w.heap.size 0 I) := fill_start' hC
  have HI : Hid (∀ j, j < n → (I j).size ≤ maxLen) := hI
  have d12 := HF0.out.cell12
  have d0 := HF0.out.cell0
  have hNC : NC < w.heap.size := by obtain ⟨cs, hb, _⟩ := hC.nc; exact lt_of_block hb
  have a12 : (w.alloc (.map #[] 0)).cell? ⟨NC, 12, Option.none⟩ = some (.map Option.none) := by rw [World.cell?_alloc_lt _ _ _ hNC]; exact c12
  have b12 : (w.alloc (.map #[] 0)).frozen? ⟨NC, 12, Option.none⟩ = false := by rw [World.frozen?_alloc_past _ _ _ hNC]; exact f12
  have HM0 : Hid (((w.setCell ⟨NC, 12, Option.none⟩ (.map (some w.heap.size))).alloc (.map #[] 0)).ownsMap (H := Unit) Try.prog 9 (plainElem Try.prog 3) w.heap.size 0 (.map [])) := by rw [← swap_alloc hNC]; exact (World.ownsMap_made w Try.prog 9 (plainElem Try.prog 3)).setCell (by simp; omega) _
  have hsz0 : ((Maps.size (DataW.map [] : DataW Unit) : Int) == 0) = true := rfl
  clear hC hI
  go_enter Try.func11, Try.ntmps11
  go_wp2_with (at_len; refine wpList_len_own _ rfl _ 54 rfl 9 3 Try.underlying54 _ w.heap.size 0 (.map []) rfl HM0.out ?_)
  clear a12 b12 c12 f12 d12 d0 hmm q54 c0 hNC HM0
  generalize hW1 : ((w.setCell ⟨NC, 12, Option.none⟩ (.map (some w.heap.size))).alloc (.map #[] 0)) = W1 at HF0
  go_loopw [29] (fun i wr => ∃ k : Nat, k ≤ n ∧ i = .int .i64 k ∧ Filling w wr NC S n w.heap.size k I) (fun i _ => n - (intOf i).toNat)
  case atStart => exact ⟨0, Nat.zero_le _, rfl, HF0.out⟩
  case round =>
    obtain ⟨k, hk, rfl, hf⟩ := hrel
    have HF : Hid (Filling w wr NC S n w.heap.size k I) := hf
    have c12 := hf.cell12
    clear hf
    by_cases hlt : k < n
    · obtain ⟨cs, hr, hl, hc0, h1⟩ := sets_range HF.out.sets hlt
      have HR : Hid (wr.rangeAt S (k * 37) cs) := hr
      have HL : Hid (cs.length = 37) := hl
      have HC0 : Hid (cs[0]? = some (.string (I k))) := hc0
      have H1 : Hid (∀ v ∈ cs, v.oneCell' = true) := h1
      clear hr hl hc0 h1
      go_wp2_with (first
        | (refine wpList_load_mid rfl 48 (.tmp 32) rfl S (k * 37) rfl cs _ HR.out Try.underlying48 rfl (by rw [HL.out]; exact sz48) ?_)
        | (refine wpList_store_whole rfl 48 (.tmp 6) (.tmp 33) rfl wr.heap.size cs rfl rfl ?ht (by rw [HL.out]; exact sz48) H1.out ?_))
      case ht => rw [HL.out]; exact there_new wr _ _ _ (by decide)
      intro w2 hr2 hg2 hz2
      have hgw : wr.grownBy w2 Option.none := grown_new hg2
      have cI : w2.cell? ⟨wr.heap.size, 0, Option.none⟩ = some (.string (I k)) := hr2 0 _ HC0.out
      have c12' : w2.cell? ⟨NC, 12, Option.none⟩ = some (.map (some w.heap.size)) := hgw.cell c12 (by simp)
      have hex : ∃ w3, (Instr.mapUpdate 54 (.map (some w.heap.size)) (.string (I k)) (.int .i64 (k : Int))).run Try.prog w2.drew = .ok () w3 ∧ Filling w w3 NC S n w.heap.size (k + 1) I := by
        obtain ⟨D, hown, hF⟩ := HF.out.map
        have hown2 := (hown.kept hgw (by simp)).drew
        obtain ⟨w3, hupd, hown3, hg3⟩ := hown2.update law9 Try.underlying54 (by unfold maxLen; omega) (WideMaps.keyOf_string_mk Try.underlying9 (HI.out k hlt)) (plainElem_int Try.underlying3 (WalkArith.wf_i64 (n := (k : Int)) (by omega)))
        exact ⟨w3, hupd, fill_step HF.out hgw hF hown.isMap hown3 ⟨hg3.os, hg3.tape, hg3.output, hg3.size, hg3.block⟩ (Nat.le_refl _)⟩
      obtain ⟨w3, hupd, hf3⟩ := hex
      have HF3 : Hid (Filling w w3 NC S n w.heap.size (k + 1) I) := hf3
      clear hr2 hg2 hgw hf3 HR HL HC0 H1 HF c12 hz2
      go_wp2
      go_region
      all_goals go_wp2
      all_goals go_roundw
      case rel => exact ⟨k + 1, by omega, by go_num, HF3.out⟩
      case measure => simp [intOf]; omega
    · have hkk : k = n := by omega
      subst hkk
      have HC : Hid (Climb wr NC S k I (.map (some w.heap.size))) := HF.out.climb
      have HG : Hid (w.grownBy wr (some NC)) := HF.out.grown
      obtain ⟨D, hown, hF⟩ := HF.out.map
      have HO : Hid (wr.ownsMap (H := Unit) Try.prog 9 (plainElem Try.prog 3) w.heap.size k D) := hown
      have HFu : Hid (Full D I k) := hF
      have c0 := HF.out.cell0
      clear hown hF HF
      cases hi : lastIdx I id k with
      | none =>
        have HIx : Hid (lastIdx I id k = Option.none) := hi
        clear hi
        go_wp2_with (at_lookup; refine wpList_look_miss _ rfl _ _ rfl w.heap.size k D I id hid rfl HO.out HFu.out rfl HIx.out ?_)
        go_ret
        exact ⟨by rw [HIx.out]; rfl, ⟨_, HC.out⟩, HG.out⟩
      | some i =>
        have hin := (lastIdx_lt hi).1
        have HIx : Hid (lastIdx I id k = some i) := hi
        clear hi
        go_wp2_with (at_lookup; refine wpList_look_hit _ rfl _ _ rfl w.heap.size k D I id i hid rfl HO.out HFu.out rfl HIx.out ?_)
        go_ret
        exact ⟨by rw [HIx.out]; rfl, ⟨_, HC.out⟩, HG.out⟩

theorem last_any {NC S n : Nat} {I : Nat → ByteArray} {mv : Value} {id : ByteArray} {w : World} (hid : id.size ≤ maxLen) (hn : n ≤ 65536) (hI : ∀ j, j < n → (I j).size ≤ maxLen) (hC : Climb w NC S n I mv) :
    Calls Try.prog 11 #[.pointer (some ⟨NC, 0, Option.none⟩), .string id] w fun e w' => e = .returned (ptrOf S (lastIdx I id n)) ∧ (∃ mv, Climb w' NC S n I mv) ∧ w.grownBy w' (some NC) := by
  rcases hC.map with h | ⟨M, D, h, hown, hF⟩
  · subst h
    exact last_fill NC S n I id w hid hn hI hC
  · subst h
    cases hi : lastIdx I id n with
    | some i => exact (last_full_hit NC S n M i I D id w hid hn hC hown hF hi).mono fun e w' ⟨h1, h2⟩ => by subst h2; exact ⟨h1, ⟨_, hC⟩, World.grownBy.refl _ _⟩
    | none =>
      by_cases h0 : 0 < n
      · exact (last_full_miss NC S n M I D id w hid hn h0 hC hown hF hi).mono fun e w' ⟨h1, h2⟩ => by subst h2; exact ⟨h1, ⟨_, hC⟩, World.grownBy.refl _ _⟩
      · have : n = 0 := by omega
        subst this
        exact (last_full_empty NC S M I D id w hid hC hown hF).mono fun e w' ⟨h1, h2⟩ => by subst h2; exact ⟨h1, ⟨_, hC⟩, World.grownBy.refl _ _⟩
end Go.Proofs.Qxb6626086a
