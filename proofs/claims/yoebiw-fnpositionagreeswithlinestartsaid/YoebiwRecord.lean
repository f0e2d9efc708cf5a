/-
  Plain laws for FnAddLineMatchesRecordModel: the line table behind a script of offsets, and its records.
-/
import Derived.Test.YoebiwLines
namespace Go.Proofs.Yoebiw.Src
open Go.ChangeShapes Go.WideShapes Go.ChangeAt Go.RowKit

/-- The line table behind the first k offsets. -/
def linesTo (sz : Int) (zs : List Int) : Nat → List Int
  | 0 => [0]
  | k + 1 => addL sz (linesTo sz zs k) (zs.getD k 0)

theorem linesTo_good (sz : Int) (zs : List Int) : ∀ k, LineTab sz (linesTo sz zs k)
  | 0 => good_zero sz
  | k + 1 => good_add (linesTo_good sz zs k)

theorem linesTo_len (sz : Int) (zs : List Int) : ∀ k, (linesTo sz zs k).length ≤ k + 1
  | 0 => by simp [linesTo]
  | k + 1 => by
    have h1 := linesTo_len sz zs k
    have h2 := add_len sz (zs.getD k 0) (linesTo sz zs k)
    simp only [linesTo]; omega

/-- The last line's offset is the greatest of 0 and the offsets below sz. -/
theorem linesTo_last (sz : Int) (zs : List Int) : ∀ k, 0 ≤ lastOf (linesTo sz zs k) ∧ (∀ i, i < k → zs.getD i 0 < sz → zs.getD i 0 ≤ lastOf (linesTo sz zs k)) ∧
    (lastOf (linesTo sz zs k) = 0 ∨ ∃ i, i < k ∧ zs.getD i 0 < sz ∧ zs.getD i 0 = lastOf (linesTo sz zs k))
  | 0 => ⟨by simp [linesTo, lastOf], fun i hi => by omega, .inl (by simp [linesTo, lastOf])⟩
  | k + 1 => by
    obtain ⟨h1, h2, h3⟩ := linesTo_last sz zs k
    have e : linesTo sz zs (k + 1) = addL sz (linesTo sz zs k) (zs.getD k 0) := rfl
    rw [e]
    generalize linesTo sz zs k = ls at h1 h2 h3
    by_cases hy : lastOf ls < zs.getD k 0 ∧ zs.getD k 0 < sz
    · rw [addL_yes hy, last_snoc]
      refine ⟨by omega, ?_, .inr ⟨k, by omega, hy.2, rfl⟩⟩
      intro i hi hs
      by_cases e : i = k
      · subst e; exact Int.le_refl _
      · have := h2 i (by omega) hs
        omega
    · rw [addL_no hy]
      refine ⟨h1, ?_, ?_⟩
      · intro i hi hs
        by_cases e : i = k
        · subst e; omega
        · exact h2 i (by omega) hs
      · rcases h3 with h3 | ⟨i, hi, hs, he⟩
        · exact .inl h3
        · exact .inr ⟨i, by omega, hs, he⟩

/-- A record: positive, below sz, greater than every earlier offset below sz. -/
theorem record_yes {sz : Int} {zs : List Int} {k : Nat} (h0 : 0 < zs.getD k 0) (h1 : zs.getD k 0 < sz) (h2 : ∀ j, j < k → ¬ (zs.getD j 0 < sz ∧ zs.getD k 0 ≤ zs.getD j 0)) :
    linesTo sz zs (k + 1) = linesTo sz zs k ++ [zs.getD k 0] := by
  obtain ⟨l1, l2, l3⟩ := linesTo_last sz zs k
  refine addL_yes ⟨?_, h1⟩
  rcases l3 with l3 | ⟨i, hi, hs, he⟩
  · omega
  · have := h2 i hi
    omega

theorem record_no {sz : Int} {zs : List Int} {k : Nat} (h : zs.getD k 0 ≤ 0 ∨ sz ≤ zs.getD k 0 ∨ ∃ j, j < k ∧ zs.getD j 0 < sz ∧ zs.getD k 0 ≤ zs.getD j 0) :
    linesTo sz zs (k + 1) = linesTo sz zs k := by
  obtain ⟨l1, l2, l3⟩ := linesTo_last sz zs k
  refine addL_no ?_
  rintro ⟨a, b⟩
  rcases h with h | h | ⟨j, hj, hs, he⟩
  · omega
  · omega
  · have := l2 j hj hs
    omega

/-- 'make([]int, 1, n+1)'. -/
theorem make_one (n : Nat) (hn : n ≤ 2000000) : ∃ C : Array Value, C.size = n + 1 ∧ C.toList.take 1 = [.int .i64 0] ∧
    ∀ w, (Instr.makeSlice 22 (.int .i64 1) (.int .i64 ((n : Int) + 1))).run Ebig.prog w = .ok (.slice (some ⟨w.heap.size, 0, none⟩) 1 (n + 1)) (w.alloc (.cells C 3)) := by
  obtain ⟨i0, hi, hz0, hz1, hz2⟩ := info_parts info3
  refine ⟨madeCells (Value.int .i64 0).cells ((n + 1) * 1), by rw [size_madeCells]; omega, ?_, fun w => ?_⟩
  · simp [madeCells, Value.cells, List.range_succ_eq_map]
  · have h := run_make (P := Ebig.prog) w 22 3 i0 (.int .i64 0) Ebig.underlying22 hi hz0 .i64 .i64 1 ((n : Int) + 1) (by omega) (by omega) (by rw [hz2]; omega) (by omega)
    rw [hz1] at h
    have e : ((n : Int) + 1).toNat = n + 1 := by omega
    rw [e] at h
    exact h

end Go.Proofs.Yoebiw.Src
