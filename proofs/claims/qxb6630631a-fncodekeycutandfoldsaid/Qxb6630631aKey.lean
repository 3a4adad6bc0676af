/-
  THE WALK OF 'CodeKey': it gives 'Plain.capsOf', and turns nothing that was there.
-/
import Derived.Test.Qxb6630631aRows
import Derived.Test.Qxb6630631aPlain
import Derived.WalkKit
import Derived.WalkLawsBesides
import Derived.Laws.IdiomStrings
namespace Go.Proofs.Qxb6630631a
open Go.RowKit Plain

/-- What the row of 'key' holds at the round k: the first k bytes made capitals, the rest as they came. -/
def KeyRow (s : ByteArray) (B k : Nat) (w : World) : Prop :=
  ∀ j (hj : j < s.size), w.cell? ⟨B, j, none⟩ = some (.int .u8 ((if j < k then up s[j] else s[j]).toNat : Int)) ∧ w.frozen? ⟨B, j, none⟩ = false

theorem keyRow_hit {s : ByteArray} {B k : Nat} {w : World} (hk : k < s.size) (hl : (97 : Int) ≤ (s[k].toNat : Int) ∧ (s[k].toNat : Int) ≤ 122) (h : KeyRow s B k w) :
    KeyRow s B (k + 1) (w.setCell ⟨B, k, none⟩ (.int .u8 ((s[k].toNat : Int) - 97 + 65))) := by
  intro j hj
  refine ⟨?_, by rw [World.frozen?_setCell]; exact (h j hj).2⟩
  by_cases e : j = k
  · subst e
    rw [World.cell?_setCell_same _ _ _ (h j hj).1]
    rw [if_pos (by omega), up_toNat, if_pos (by omega)]
    congr 2
    omega
  · rw [World.cell?_setCell_other _ _ _ _ (by intro c; apply e; have := congrArg Addr.off c; simp at this; omega), (h j hj).1]
    by_cases c : j < k
    · rw [if_pos c, if_pos (by omega)]
    · rw [if_neg c, if_neg (by omega)]

theorem keyRow_miss {s : ByteArray} {B k : Nat} {w : World} (hk : k < s.size) (hl : ¬ ((97 : Int) ≤ (s[k].toNat : Int) ∧ (s[k].toNat : Int) ≤ 122)) (h : KeyRow s B k w) :
    KeyRow s B (k + 1) w := by
  intro j hj
  refine ⟨?_, (h j hj).2⟩
  rw [(h j hj).1]
  by_cases e : j = k
  · subst e
    have hu : up s[j] = s[j] := by unfold up; rw [if_neg (by omega)]
    rw [if_neg (by omega), if_pos (by omega), hu]
  · by_cases c : j < k
    · rw [if_pos c, if_pos (by omega)]
    · rw [if_neg c, if_neg (by omega)]

set_option maxHeartbeats 400000 in
theorem key_core (s : ByteArray) (cap : Nat) (C : Array Value) (w : World) (hs : s.size ≤ 9223372036854775807)
    (hconv : (convert 9 26 (.string s)).run Try.prog w = .ok (.slice (some ⟨w.heap.size, 0, none⟩) s.size cap) (w.drew.alloc (.cells C 5 (C.size, C.size + 1))))
    (h0 : KeyRow s w.heap.size 0 (w.alloc (.cells C 5 (C.size, C.size + 1))))
    (hback : ∀ wr, KeyRow s w.heap.size s.size wr → (convert 26 9 (.slice (some ⟨w.heap.size, 0, none⟩) s.size cap)).run Try.prog wr = .ok (.string (capsOf s)) wr) :
    Calls Try.prog 6 #[.string s] w fun e w' => e = .returned (.string (capsOf s)) ∧ Below w.heap.size w w' := by
  have H0 : Hid (KeyRow s w.heap.size 0 (w.alloc (.cells C 5 (C.size, C.size + 1)))) := h0
  clear h0
  have HB : Hid (∀ wr, KeyRow s w.heap.size s.size wr → (convert 26 9 (.slice (some ⟨w.heap.size, 0, none⟩) s.size cap)).run Try.prog wr = .ok (.string (capsOf s)) wr) := hback
  clear hback
  go_enter Try.func6, Try.ntmps6
  go_wp2
  go_loopw [10] (fun i wr => ∃ k : Nat, k ≤ s.size ∧ i = .int .i64 k ∧ KeyRow s w.heap.size k wr ∧ Below w.heap.size w wr ∧ w.heap.size < wr.heap.size) (fun i _ => s.size - (intOf i).toNat)
  case atStart => exact ⟨0, Nat.zero_le _, rfl, H0.out, ((Below.refl _ _).alloc (Nat.le_refl _) _).drew, by simp⟩
  case round =>
    obtain ⟨k, hk, rfl, hrow, hbel, hsz⟩ := hrel
    have HR : Hid (KeyRow s w.heap.size k wr) := hrow
    clear hrow
    by_cases hlt : k < s.size
    · have hc : wr.cell? ⟨w.heap.size, k, none⟩ = some (.int .u8 (s[k].toNat : Int)) := by
        have := (HR.out k hlt).1
        simpa using this
      have hf := (HR.out k hlt).2
      have hb : s[k].toNat < 256 := s[k].toNat_lt
      by_cases hlow : (97 : Int) ≤ (s[k].toNat : Int) ∧ (s[k].toNat : Int) ≤ 122
      · have R := keyRow_hit hlt hlow HR.out
        obtain ⟨h1, h2⟩ := hlow
        go_wp2
        go_roundw
        case rel => exact ⟨k + 1, by omega, by go_num, R, hbel.setCell (Nat.le_refl _) _, by simpa [World.setCell] using hsz⟩
        case measure => simp [intOf]; omega
      · have R := keyRow_miss hlt hlow HR.out
        by_cases h1 : (97 : Int) ≤ (s[k].toNat : Int)
        · have h2 : ¬ (s[k].toNat : Int) ≤ 122 := fun h => hlow ⟨h1, h⟩
          go_wp2
          go_roundw
          case rel => exact ⟨k + 1, by omega, by go_num, R, hbel, hsz⟩
          case measure => simp [intOf]; omega
        · go_wp2
          go_roundw
          case rel => exact ⟨k + 1, by omega, by go_num, R, hbel, hsz⟩
          case measure => simp [intOf]; omega
    · obtain rfl : k = s.size := by omega
      have hb := HB.out wr HR.out
      go_wp2
      go_ret
      exact ⟨rfl, hbel⟩

theorem key_any (s : ByteArray) (hs : s.size ≤ maxLen) (w : World) :
    Calls Try.prog 6 #[.string s] w fun e w' => e = .returned (.string (capsOf s)) ∧ Below w.heap.size w w' := by
  refine key_core s (grownCap w s.size 0 5) (bytesRow s (grownCap w s.size 0 5)) w (by unfold maxLen at hs; omega)
    (run_bytes_of_string (P := Try.prog) w 9 26 5 s Try.underlying9 Try.underlying26 Try.underlying5) (fun j hj => ⟨?_, ?_⟩) (fun wr hr => ?_)
  · rw [World.cell?_alloc_mark, bytesRow_at s _ j hj]
    simp
    rfl
  · rw [World.frozen?_alloc_mark]
    have : s.size ≤ (bytesRow s (grownCap w s.size 0 5)).size := by
      simp [bytesRow]
    have h : ¬ (bytesRow s (grownCap w s.size 0 5)).size ≤ j := by omega
    simp [h]
  · have h := run_convert_bytes_back (P := Try.prog) wr 26 9 5 ⟨w.heap.size, 0, none⟩ (grownCap w s.size 0 5) (capsOf s).data.toList Try.underlying26 Try.underlying5 Try.underlying9 (fun j hj => by
      have hj' : j < s.size := by
        have e : (capsOf s).data.toList.length = (capsOf s).size := rfl
        rw [e, capsOf_size] at hj
        exact hj
      have := (hr j hj').1
      rw [if_pos hj'] at this
      have ea : (⟨w.heap.size, 0, none⟩ : Addr).add j = ⟨w.heap.size, j, none⟩ := by simp [Addr.add]; rintro rfl; rfl
      rw [ea, this, ← capsOf_get s j hj' (by rw [capsOf_size]; exact hj')]
      rfl)
    have e : (capsOf s).data.toList.length = s.size := capsOf_size s
    rw [e] at h
    exact h
end Go.Proofs.Qxb6630631a
