/-
  Plain laws on line tables (no Go in sight), and the file behind one AddFile.
-/
import Derived.Test.YoebiwBytes
namespace Go.Proofs.Yoebiw.Src
open Go.ChangeShapes Go.WideShapes Go.ChangeAt Go.RowKit

/-- A line table: 0, then strictly rising offsets below sz. -/
def LineTab (sz : Int) (ls : List Int) : Prop :=
  1 ≤ ls.length ∧ ls.getD 0 0 = 0 ∧ ∀ i, 1 ≤ i → i < ls.length → ls.getD (i - 1) 0 < ls.getD i 0 ∧ ls.getD i 0 < sz

theorem good_zero (sz : Int) : LineTab sz [0] := ⟨by simp, rfl, fun i h1 h2 => by simp at h2; omega⟩

theorem good_bd {sz : Int} {ls : List Int} (h : LineTab sz ls) (hs : 0 ≤ sz) : ∀ i, i < ls.length → 0 ≤ ls.getD i 0 ∧ ls.getD i 0 ≤ sz := by
  intro i
  induction i with
  | zero => intro _; rw [h.2.1]; omega
  | succ i ih =>
    intro hi
    have h1 := ih (by omega)
    have h2 := h.2.2 (i + 1) (by omega) hi
    simp only [Nat.add_sub_cancel] at h2
    omega

theorem good_mono {sz : Int} {ls : List Int} (h : LineTab sz ls) : ∀ d i, i + d < ls.length → ls.getD i 0 ≤ ls.getD (i + d) 0 := by
  intro d
  induction d with
  | zero => intro i _; exact Int.le_refl _
  | succ d ih =>
    intro i hi
    have h1 := ih i (by omega)
    have h2 := h.2.2 (i + (d + 1)) (by omega) hi
    rw [show i + (d + 1) - 1 = i + d by omega] at h2
    omega

theorem last_bd {sz : Int} {ls : List Int} (h : LineTab sz ls) (hs : 0 ≤ sz) : 0 ≤ lastOf ls ∧ lastOf ls ≤ sz := by
  have := h.1
  exact good_bd h hs _ (by omega)

theorem addL_yes {sz o : Int} {ls : List Int} (h : lastOf ls < o ∧ o < sz) : addL sz ls o = ls ++ [o] := by rw [addL, if_pos h]
theorem addL_no {sz o : Int} {ls : List Int} (h : ¬ (lastOf ls < o ∧ o < sz)) : addL sz ls o = ls := by rw [addL, if_neg h]

theorem getD_snoc_lt {ls : List Int} {o : Int} {i : Nat} (h : i < ls.length) : (ls ++ [o]).getD i 0 = ls.getD i 0 := by
  simp [List.getD, List.getElem?_append_left h]
theorem getD_snoc_eq {ls : List Int} {o : Int} : (ls ++ [o]).getD ls.length 0 = o := by simp [List.getD]
theorem last_snoc {ls : List Int} {o : Int} : lastOf (ls ++ [o]) = o := by
  unfold lastOf; rw [show (ls ++ [o]).length - 1 = ls.length by simp]; exact getD_snoc_eq

theorem good_add {sz o : Int} {ls : List Int} (h : LineTab sz ls) : LineTab sz (addL sz ls o) := by
  by_cases hy : lastOf ls < o ∧ o < sz
  · rw [addL_yes hy]
    have h1 := h.1
    refine ⟨by simp, by rw [getD_snoc_lt (by omega)]; exact h.2.1, ?_⟩
    intro i i1 i2
    simp at i2
    by_cases e : i = ls.length
    · subst e
      rw [getD_snoc_eq, getD_snoc_lt (by omega)]
      exact hy
    · rw [getD_snoc_lt (by omega), getD_snoc_lt (by omega)]
      exact h.2.2 i i1 (by omega)
  · rw [addL_no hy]; exact h

theorem add_len (sz o : Int) (ls : List Int) : ls.length ≤ (addL sz ls o).length ∧ (addL sz ls o).length ≤ ls.length + 1 := by
  unfold addL; split <;> simp

theorem add_again (sz o : Int) (ls : List Int) : addL sz (addL sz ls o) o = addL sz ls o := by
  by_cases hy : lastOf ls < o ∧ o < sz
  · rw [addL_yes hy, addL_no (by rw [last_snoc]; omega)]
  · rw [addL_no hy, addL_no hy]

/-- One step of the script: the count stays or rises by one; the last start does not fall, and rises with the count. -/
theorem add_step (sz o : Int) (ls : List Int) : ((addL sz ls o).length = ls.length ∧ lastOf (addL sz ls o) = lastOf ls) ∨ ((addL sz ls o).length = ls.length + 1 ∧ lastOf ls < lastOf (addL sz ls o)) := by
  by_cases hy : lastOf ls < o ∧ o < sz
  · right; rw [addL_yes hy, last_snoc]; exact ⟨by simp, hy.1⟩
  · left; rw [addL_no hy]; exact ⟨rfl, rfl⟩

/-- Behind the one AddFile of a law: the new file; all that was there ahead of the set is as it was. -/
theorem add_one {w1 w2 : World} {nm : ByteArray} {b size : Int} (h : AddFilePost (w1.alloc (.cells #[.int .i64 1, .slice none 0 0, .pointer none] 45)) w2 w1.heap.size (w1.heap.size + 1) none 0 0 nm b size) :
    FileAt w2 (w1.heap.size + 2) (w1.heap.size + 1) nm b size [0] ∧ Below w1.heap.size w1 w2 := by
  obtain ⟨k1, _, k2, k3, k4⟩ := h
  simp only [World.size_alloc] at k1 k3 k4
  refine ⟨k1, k2.os, k2.tape, k2.output, by omega, ?_⟩
  intro k hk
  rw [k4 k (by omega) (by omega) (by simp [Value.ownBlock])]
  exact blk_old hk

theorem file_drewN {w : World} {f g : Nat} {nm : ByteArray} {bs sz : Int} {ls : List Int} (h : FileAt w f g nm bs sz ls) (n : Nat) : FileAt (w.drewN n) f g nm bs sz ls := h

theorem mine_below {w w' : World} {B : Nat} {a : Option Addr} {c n : Nat} {zs : List Int} (h : Mine w a c n zs) (hb : Below B w w') (hB : w.heap.size ≤ B) : Mine w' a c n zs := by
  rcases h with h | ⟨h1, h2, h3⟩
  · exact .inl h
  · exact .inr ⟨h1, Nat.lt_of_lt_of_le h2 hb.size, fun j hj => (hb.cell (p := ⟨c, j, none⟩) (show c < B by omega)).trans (h3 j hj)⟩

theorem mine_at {w : World} {a : Option Addr} {c n k : Nat} {zs : List Int} (h : Mine w a c n zs) (hk : k < n) : a = some ⟨c, 0, none⟩ ∧ w.cell? ⟨c, k, none⟩ = some (.int .i64 (zs.getD k 0)) := by
  rcases h with ⟨h, _⟩ | ⟨h1, h2, h3⟩
  · omega
  · exact ⟨h1, h3 k hk⟩

end Go.Proofs.Yoebiw.Src
