/-
  'slices.Clone' and '(*Datatype).Instance'.
-/
import Derived.Test.Qxb6625806aEq
import Derived.Lib.SliceRun
import Derived.WalkSpells
namespace Go.Proofs.Qxb6625806a
open Go.RowKit
set_option linter.unusedVariables false

def ifs (zs : List Int) : List Value := zs.map fun z => .iface 38 (.int .i64 z)

theorem ifs_one (zs : List Int) : ∀ u ∈ ifs zs, u.oneCell' = true := by
  intro u hu
  obtain ⟨z, _, rfl⟩ := List.mem_map.1 hu
  rfl

set_option maxHeartbeats 400000 in
theorem clone_core (g n cap : Nat) (zs : List Int) (w : World) (B : Nat) (hB : B ≤ w.heap.size) (hn : zs.length = n) (hsm : n ≤ 1048576)
    (hown : w.ownsRow B 40 1 (.slice (some ⟨g, 0, none⟩) n cap) n (ifs zs)) :
    Calls Try.prog 10 #[.slice (some ⟨g, 0, none⟩) n cap] w fun e w' => ∃ g' c', e = .returned (.slice (some ⟨g', 0, none⟩) n c') ∧ w'.ownsRow B 40 1 (.slice (some ⟨g', 0, none⟩) n c') n (ifs zs) ∧ Below w.heap.size w w' := by
  obtain ⟨i0, hi, hz0, hz1, hz2⟩ := info_parts info40
  have q33 : ∀ (w : World) (a : Option Addr) (n c n' c' : Nat), (binOp .eql 33 (.slice a n c) (.slice none n' c')).run Try.prog w = .ok (.bool a.isNone) w := fun w a n c n' c' => Lib.run_eql_slice_nil w _ _ a n c n' c' Try.underlying33
  have HO : Hid (w.ownsRow B 40 1 (.slice (some ⟨g, 0, none⟩) n cap) n (ifs zs)) := hown
  clear hown
  have h1 : (w.alloc (.cells #[] 40)).ownsRow B 40 1 (.slice (some ⟨w.heap.size, 0, none⟩) 0 0) 0 [] := World.ownsRow_lit w #[] 0 hB (Nat.zero_le _) rfl
  have h2 : ∀ j u, (ifs zs)[j]? = some u → (w.alloc (.cells #[] 40)).cell? ((⟨g, 0, none⟩ : Addr).add j) = some u := fun j u hj => (HO.out.alloc _).cells rfl j u hj
  have H1 : Hid ((w.alloc (.cells #[] 40)).ownsRow B 40 1 (.slice (some ⟨w.heap.size, 0, none⟩) 0 0) 0 []) := h1
  have H2 : Hid (∀ j u, (ifs zs)[j]? = some u → (w.alloc (.cells #[] 40)).cell? ((⟨g, 0, none⟩ : Addr).add j) = some u) := h2
  clear h1 h2
  go_enter Try.func10, Try.ntmps10
  go_wp2_with (at_builtin; refine wpList_append_own _ rfl _ _ 33 rfl B 40 i0 .nilIface 1 16 Try.underlying33 hi hz0 hz1 hz2 rfl (by decide) _ _ _ rfl H1.out ⟨g, 0, none⟩ n cap (ifs zs) rfl (by simp [ifs, hn]) H2.out (ifs_one zs) (by unfold maxLen; omega) (by omega) (by simp; omega) ?_; intro v' w1 hown' hgrow hiff)
  simp only [Nat.zero_add, List.nil_append] at hown'
  have hex : ∃ g' c', v' = .slice (some ⟨g', 0, none⟩) n c' := by
    rcases hown'.2 with ⟨e1, _⟩ | ⟨g', c', _, e1, _⟩
    · have := (hiff.1 e1).1
      cases this
    · exact ⟨g', c', e1⟩
  obtain ⟨g', c', hv⟩ := hex
  rw [hv] at hown'
  rw [hv]
  clear hiff hv
  go_wp2
  go_ret
  exact ⟨g', c', rfl, hown', ((Below.refl _ _).alloc (Nat.le_refl _) _).grown hgrow (by simp) (fun k hk => by cases hk; exact Nat.le_refl _)⟩

theorem clone_any (v : Value) (zs : List Int) (w : World) (B : Nat) (hB : B ≤ w.heap.size) (hsm : zs.length ≤ 1048576)
    (hown : w.ownsRow B 40 1 v zs.length (ifs zs)) (hnn : v ≠ .slice none 0 0) :
    Calls Try.prog 10 #[v] w fun e w' => ∃ g' c', e = .returned (.slice (some ⟨g', 0, none⟩) zs.length c') ∧ w'.ownsRow B 40 1 (.slice (some ⟨g', 0, none⟩) zs.length c') zs.length (ifs zs) ∧ Below w.heap.size w w' := by
  rcases hown.2 with ⟨rfl, _⟩ | ⟨g, cap, cur, rfl, _⟩
  · exact absurd rfl hnn
  · exact clone_core g _ cap zs w B hB rfl hsm hown

/-- Every block but those of the types 'Datatype' (30) and '[]*DatatypeType' (31) stays. -/
def Keep (w w' : World) : Prop := ∀ (k : Nat) (cs : Array Value) (e : TypeId), w.heap[k]? = some (.cells cs e (0, 0)) → e ≠ 30 → e ≠ 31 → w'.heap[k]? = some (.cells cs e (0, 0))

theorem Keep.refl (w : World) : Keep w w := fun _ _ _ h _ _ => h
theorem Keep.trans {a b c : World} (h : Keep a b) (k : Keep b c) : Keep a c := fun i cs e hh h1 h2 => k i cs e (h i cs e hh h1 h2) h1 h2
theorem Keep.own {w w' : World} (h : Keep w w') {B e s n : Nat} {v : Value} {xs : List Value} (he : e ≠ 30) (he' : e ≠ 31) (ho : w.ownsRow B e s v n xs) : w'.ownsRow B e s v n xs := by
  refine ⟨ho.1, ?_⟩
  rcases ho.2 with h1 | ⟨g, cap, cur, h1, h2, h3, h4⟩
  · exact .inl h1
  · exact .inr ⟨g, cap, cur, h1, h2, h g cur e h3 he he', h4⟩

theorem below_at {w w' : World} (h : Below w.heap.size w w') {k : Nat} {o : Obj} (hh : w.heap[k]? = some o) : w'.heap[k]? = some o := by
  rw [h.block k (lt_of_block hh)]; exact hh

theorem keep_below {w w' : World} (h : Below w.heap.size w w') : Keep w w' := fun k cs e hh _ _ => below_at h hh

theorem own_below {w w' : World} (h : Below w.heap.size w w') {B e s n : Nat} {v : Value} {xs : List Value} (ho : w.ownsRow B e s v n xs) : w'.ownsRow B e s v n xs := by
  refine ⟨ho.1, ?_⟩
  rcases ho.2 with h1 | ⟨g, cap, cur, h1, h2, h3, h4⟩
  · exact .inl h1
  · exact .inr ⟨g, cap, cur, h1, h2, below_at h h3, h4⟩

def ptr (t : Nat) : Value := .pointer (some ⟨t, 0, none⟩)

/-- The datatype at block D holds the instances L (each: its block, its arguments' codes), in their order. -/
structure Memo (B : Nat) (w : World) (D : Nat) (L : List (Nat × List Int)) (iv : Value) : Prop where
  dB : B ≤ D
  dblk : ∃ c0 c1 c2 c3, w.heap[D]? = some (.cells #[c0, c1, c2, c3, iv] 30 (0, 0))
  own : w.ownsRow B 31 1 iv L.length (L.map fun p => ptr p.1)
  each : ∀ p ∈ L, ∃ av, w.heap[p.1]? = some (.cells #[ptr D, av] 35 (0, 0)) ∧ w.ownsRow B 40 1 av p.2.length (ifs p.2)

theorem Memo.below {B D : Nat} {w w' : World} {L : List (Nat × List Int)} {iv : Value} (M : Memo B w D L iv) (h : Below w.heap.size w w') : Memo B w' D L iv := by
  obtain ⟨h1, ⟨c0, c1, c2, c3, h2⟩, h3, h4⟩ := M
  refine ⟨h1, ⟨c0, c1, c2, c3, below_at h h2⟩, own_below h h3, fun p hp => ?_⟩
  obtain ⟨av, e1, e2⟩ := h4 p hp
  exact ⟨av, below_at h e1, own_below h e2⟩

theorem own_type {w : World} {B e s n : Nat} {v : Value} {xs : List Value} (ho : w.ownsRow B e s v n xs) {k : Nat} (hk : v.ownBlock = some k) : B ≤ k ∧ ∃ cs, w.heap[k]? = some (.cells cs e (0, 0)) := by
  rcases ho.2 with ⟨rfl, _⟩ | ⟨g, cap, cur, rfl, h2, h3, h4⟩
  · cases hk
  · cases hk; exact ⟨h2, cur, h3⟩

/-- What the tail of 'Instance' makes of the memo. -/
theorem memo_add {B D : Nat} {w w1 w4 : World} {L : List (Nat × List Int)} {iv av v2 : Value} {zs : List Int} (M : Memo B w D L iv) (hB : B ≤ w.heap.size)
    (hb1 : Below w.heap.size w w1) (hown1 : w1.ownsRow B 40 1 av zs.length (ifs zs))
    (hown4 : w4.ownsRow B 31 1 v2 (L.length + 1) ((L.map fun p => ptr p.1) ++ [ptr w1.heap.size]))
    (hg : ((w1.alloc (.cells #[ptr D, av] 35)).alloc (.cells #[ptr w1.heap.size] 31)).grownBy w4 iv.ownBlock) :
    Memo B (w4.setCell ⟨D, 4, none⟩ v2) D (L ++ [(w1.heap.size, zs)]) v2 ∧ Keep w (w4.setCell ⟨D, 4, none⟩ v2) ∧ Below B w (w4.setCell ⟨D, 4, none⟩ v2) ∧ w.heap.size ≤ w1.heap.size := by
  have M1 := M.below hb1
  have hD : D < w1.heap.size := by obtain ⟨c0, c1, c2, c3, h⟩ := M1.dblk; exact lt_of_block h
  obtain ⟨w3, hw3⟩ : ∃ w3, w3 = (w1.alloc (.cells #[ptr D, av] 35)).alloc (.cells #[ptr w1.heap.size] 31) := ⟨_, rfl⟩
  rw [← hw3] at hg
  have hb3 : Below w1.heap.size w1 w3 := by rw [hw3]; exact ((Below.refl _ _).alloc (Nat.le_refl _) _).alloc (by simp) _
  have ht3 : w3.heap[w1.heap.size]? = some (.cells #[ptr D, av] 35 (0, 0)) := by
    rw [hw3, Below.heap_alloc _ _ _ (by simp)]
    exact heap_alloc_new w1 _
  have M3 := M1.below hb3
  have hrow : ∀ (k : Nat), iv.ownBlock = some k → B ≤ k ∧ ∃ cs, w3.heap[k]? = some (.cells cs 31 (0, 0)) := fun k hk => own_type M3.own hk
  -- from w3 to w4: blocks that are not of type 31 stay
  have h34 : ∀ (k : Nat) (cs : Array Value) (e : TypeId), w3.heap[k]? = some (.cells cs e (0, 0)) → e ≠ 31 → w4.heap[k]? = some (.cells cs e (0, 0)) := by
    intro k cs e hh he
    rw [hg.block k (lt_of_block hh) (fun c => ?_)]
    · exact hh
    · obtain ⟨_, cs', h'⟩ := hrow k c.symm
      rw [hh] at h'
      simp at h'
      exact he h'.2
  obtain ⟨c0, c1, c2, c3, hd3⟩ := M3.dblk
  have hd4 := h34 _ _ _ hd3 (by decide)
  -- the store
  have h45 : ∀ (k : Nat) (o : Obj), w4.heap[k]? = some o → k ≠ D → (w4.setCell ⟨D, 4, none⟩ v2).heap[k]? = some o := by
    intro k o hh hk
    rw [Below.heap_setCell _ _ _ _ (by simpa using hk)]; exact hh
  have hd5 : (w4.setCell ⟨D, 4, none⟩ v2).heap[D]? = some (.cells #[c0, c1, c2, c3, v2] 30 (0, 0)) := by
    simp [World.setCell, Array.getElem?_modify, hd4]
  have hne : ∀ (k : Nat) (cs : Array Value) (e : TypeId), w4.heap[k]? = some (.cells cs e (0, 0)) → e ≠ 30 → k ≠ D := by
    intro k cs e hh he hk
    subst hk
    rw [hd4] at hh
    simp at hh
    exact he hh.2.symm
  have own5 : ∀ {e s n : Nat} {v : Value} {xs : List Value}, e ≠ 30 → w4.ownsRow B e s v n xs → (w4.setCell ⟨D, 4, none⟩ v2).ownsRow B e s v n xs := by
    intro e s n v xs he ho
    refine ⟨ho.1, ?_⟩
    rcases ho.2 with h1 | ⟨g, cap, cur, h1, h2, h3, h4⟩
    · exact .inl h1
    · exact .inr ⟨g, cap, cur, h1, h2, h45 _ _ h3 (hne _ _ _ h3 he), h4⟩
  have own34 : ∀ {s n : Nat} {v : Value} {xs : List Value}, w3.ownsRow B 40 s v n xs → w4.ownsRow B 40 s v n xs := by
    intro s n v xs ho
    refine ⟨ho.1, ?_⟩
    rcases ho.2 with h1 | ⟨g, cap, cur, h1, h2, h3, h4⟩
    · exact .inl h1
    · exact .inr ⟨g, cap, cur, h1, h2, h34 _ _ _ h3 (by decide), h4⟩
  refine ⟨⟨M.dB, ⟨c0, c1, c2, c3, hd5⟩, ?_, ?_⟩, ?_, ?_, hb1.size⟩
  · have := own5 (by decide) hown4
    simpa using this
  · intro p hp
    rcases List.mem_append.1 hp with hp | hp
    · obtain ⟨a', e1, e2⟩ := M3.each p hp
      have e4 := h34 _ _ _ e1 (by decide)
      exact ⟨a', h45 _ _ e4 (hne _ _ _ e4 (by decide)), own5 (by decide) (own34 e2)⟩
    · have : p = (w1.heap.size, zs) := by simpa using hp
      subst this
      have e4 := h34 _ _ _ ht3 (by decide)
      exact ⟨av, h45 _ _ e4 (hne _ _ _ e4 (by decide)), own5 (by decide) (own34 (own_below hb3 hown1))⟩
  · intro k cs e hh h30 h31
    have h1 := below_at hb3 (below_at hb1 hh)
    have h4 := h34 _ _ _ h1 h31
    exact h45 _ _ h4 (hne _ _ _ h4 h30)
  · have hBw1 : B ≤ w1.heap.size := Nat.le_trans hB hb1.size
    have hBw3 : B ≤ w3.heap.size := Nat.le_trans hBw1 hb3.size
    exact (((hb1.mono hB).trans (hb3.mono hBw1)).grown hg hBw3 (fun k hk => (hrow k hk).1)).setCell M.dB _
end Go.Proofs.Qxb6625806a
