/-
  The contract of (*SourceFile).AddLine.
-/
import Derived.Test.YoebiwAddFile
namespace Go.Proofs.Yoebiw.Src
open Go.ChangeShapes Go.WideShapes Go.ChangeAt Go.RowKit

set_option maxHeartbeats 400000 in
theorem addLine_no (f g n cap : Nat) (sz last o : Int) (w : World) (h3 : w.cell? ⟨f, 3, none⟩ = some (.int .i64 sz)) (h4 : w.cell? ⟨f, 4, none⟩ = some (.slice (some ⟨g, 0, none⟩) n cap))
    (h1 : 1 ≤ n) (hn : n ≤ 9223372036854775807) (hv : w.cell? ⟨g, n - 1, none⟩ = some (.int .i64 last)) (hno : o ≤ last ∨ last < o ∧ sz ≤ o) :
    Calls Ebig.prog 11 #[.pointer (some ⟨f, 0, none⟩), .int .i64 o] w fun e w' => e = .returned (.tuple #[]) ∧ w' = w := by
  have hn0 : ((n : Int) == 0) = false := beq_eq_false_iff_ne.2 (by omega)
  rcases hno with hno | ⟨hno, hno'⟩
  all_goals
    go_enter Ebig.func11, Ebig.ntmps11
    go_wp2
    go_end0
    exact ⟨rfl, rfl⟩

set_option maxHeartbeats 1000000 in
theorem addLine_yes (f g n cap B : Nat) (xs : List Value) (sz last o : Int) (w : World) (h3 : w.cell? ⟨f, 3, none⟩ = some (.int .i64 sz)) (h4 : w.cell? ⟨f, 4, none⟩ = some (.slice (some ⟨g, 0, none⟩) n cap))
    (hf : f < w.heap.size) (hgf : g ≠ f) (hB : B ≤ w.heap.size)
    (h1 : 1 ≤ n) (hn : n ≤ 1000000) (hv : w.cell? ⟨g, n - 1, none⟩ = some (.int .i64 last)) (hlt : last < o) (hsz : o < sz) (hown : w.ownsRow B 3 1 (.slice (some ⟨g, 0, none⟩) n cap) n xs) (hfz : w.frozen? ⟨f, 4, none⟩ = false) :
    Calls Ebig.prog 11 #[.pointer (some ⟨f, 0, none⟩), .int .i64 o] w fun e w' => e = .returned (.tuple #[]) ∧ ∃ g' cap' w1, w1.ownsRow B 3 1 (.slice (some ⟨g', 0, none⟩) (n + 1) cap') (n + 1) (xs ++ [.int .i64 o]) ∧
      (w.alloc (.cells #[.int .i64 o] 3)).grownBy w1 (some g) ∧ (g = g' ∨ g' = w.heap.size + 1) ∧ w' = w1.setCell ⟨f, 4, none⟩ (.slice (some ⟨g', 0, none⟩) (n + 1) cap') := by
  obtain ⟨i0, hi, hz0, hz1, hz2⟩ := info_parts info3
  have hn0 : ((n : Int) == 0) = false := beq_eq_false_iff_ne.2 (by omega)
  have Hown := hide hown
  clear hown
  go_enter Ebig.func11, Ebig.ntmps11
  go_wp2_with (at_builtin; refine wpList_append_lies _ rfl (.tmp 36) (.tmp 38) 22 rfl B 3 i0 (.int .i64 0) 1 8 Ebig.underlying22 hi hz0 hz1 hz2 rfl (by decide) (.slice (some ⟨g, 0, none⟩) n cap) n xs rfl ?own ⟨w.heap.size, 0, none⟩ 1 1 [.int .i64 o] rfl rfl ?c1 ?c2 (by decide) ?c3 ?c4 ?c5 (w.heap.size + 1) ?c6 ?_)
  case own => exact (unhide Hown).alloc _
  case c1 => intro j u hj; match j, hj with | 0, hj => simp at hj; subst hj; exact blk_cell (blk_new rfl) 0
  case c2 => intro u hu; simp at hu; subst hu; rfl
  case c3 => unfold maxLen; omega
  case c4 => omega
  case c5 => simp; omega
  case c6 => simp
  · intro g' cap' w1 hown1 hgrow hat hlt1
    have e4 : w1.cell? ⟨f, 4, none⟩ = some (.slice (some ⟨g, 0, none⟩) n cap) :=
      hgrow.cell (a := ⟨f, 4, none⟩) ((World.cell?_alloc_past _ _ _ hf).trans h4) (by simpa [Value.ownBlock] using Ne.symm hgf)
    have e5 : w1.frozen? ⟨f, 4, none⟩ = false :=
      (World.frozen?_of_block (hgrow.block f (by simp; omega) (by simpa [Value.ownBlock] using Ne.symm hgf))).trans ((World.frozen?_alloc_past _ _ _ hf).trans hfz)
    have HO := hide hown1
    have HG := hide hgrow
    have HA := hide hat
    clear hown1 hgrow hat hlt1 Hown
    go_wp2
    go_end0
    exact ⟨rfl, g', cap', w1, unhide HO, unhide HG, by simpa [Value.ownBlock] using unhide HA, rfl⟩

/-- What the readers of a file in memory want to know. -/
theorem facts {w : World} {f g : Nat} {nm : ByteArray} {bs sz : Int} {ls : List Int} (h : FileAt w f g nm bs sz ls) :
    ∃ cap, w.cell? ⟨f, 1, none⟩ = some (.string nm) ∧ w.cell? ⟨f, 2, none⟩ = some (.int .i64 bs) ∧ w.cell? ⟨f, 3, none⟩ = some (.int .i64 sz) ∧
      w.cell? ⟨f, 4, none⟩ = some (.slice (some ⟨g, 0, none⟩) ls.length cap) ∧ ∀ i, i < ls.length → w.cell? ⟨g, i, none⟩ = some (.int .i64 (ls.getD i 0)) := by
  obtain ⟨_, p, cap, cur, hf, hg, h1, _, hc, ht⟩ := h
  refine ⟨cap, blk_cell hf 1, blk_cell hf 2, blk_cell hf 3, blk_cell hf 4, fun i hi => (blk_cell hg i).trans ?_⟩
  have h2 : (cur.toList.take ls.length)[i]? = (ls.map (Value.int .i64))[i]? := by rw [ht]
  rw [List.getElem?_take_of_lt hi, List.getElem?_map] at h2
  rw [← Array.getElem?_toList, h2]
  simp [List.getD, hi]

theorem keep {w w' : World} {f g : Nat} {nm : ByteArray} {bs sz : Int} {ls : List Int} (h : FileAt w f g nm bs sz ls) (hf : w'.heap[f]? = w.heap[f]?) (hg : w'.heap[g]? = w.heap[g]?) : FileAt w' f g nm bs sz ls := by
  obtain ⟨h0, p, cap, cur, h1, h2, r⟩ := h
  exact ⟨h0, p, cap, cur, hf.trans h1, hg.trans h2, r⟩

theorem file_lt {w : World} {f g : Nat} {nm : ByteArray} {bs sz : Int} {ls : List Int} (h : FileAt w f g nm bs sz ls) : f < w.heap.size ∧ g < w.heap.size := by
  obtain ⟨h0, p, cap, cur, h1, h2, r⟩ := h
  exact ⟨lt_of_blk h1, lt_of_blk h2⟩

/-- The last line's offset. -/
def lastOf (ls : List Int) : Int := ls.getD (ls.length - 1) 0

/-- What AddLine makes of the line table. -/
def addL (sz : Int) (ls : List Int) (o : Int) : List Int := if lastOf ls < o ∧ o < sz then ls ++ [o] else ls

theorem addLine_c (f g B : Nat) (nm : ByteArray) (bs sz o : Int) (ls : List Int) (w : World) (h : FileAt w f g nm bs sz ls) (h1 : 1 ≤ ls.length) (hn : ls.length ≤ 1000000) (hBf : B ≤ f) (hBg : B ≤ g) :
    Calls Ebig.prog 11 #[.pointer (some ⟨f, 0, none⟩), .int .i64 o] w fun e w' => e = .returned (.tuple #[]) ∧ ∃ g', B ≤ g' ∧ FileAt w' f g' nm bs sz (addL sz ls o) ∧ Below B w w' := by
  obtain ⟨cap, c1, c2, c3, c4, cl⟩ := facts h
  obtain ⟨hfl, hgl⟩ := file_lt h
  by_cases hy : lastOf ls < o ∧ o < sz
  · have hh := h
    obtain ⟨hgf, p, cap', cur, hf, hg, r1, r2, r3, r4⟩ := hh
    have hcap : cap' = cap := by
      have := (blk_cell hf 4).symm.trans c4
      simpa using this
    subst hcap
    have hown : w.ownsRow B 3 1 (.slice (some ⟨g, 0, none⟩) ls.length cap') ls.length (ls.map (Value.int .i64)) :=
      ⟨by simp, .inr ⟨g, cap', cur, rfl, hBg, hg, r1, r2, by simpa using r3, by simpa using r4⟩⟩
    refine (addLine_yes f g ls.length cap' B _ sz (lastOf ls) o w c3 c4 hfl hgf (by omega) h1 hn (cl _ (by omega)) hy.1 hy.2 hown (frozen_of_row w f 4 _ _ hf)).mono ?_
    rintro e w' ⟨rfl, g', capN, w1, hown1, hgrow, hat, rfl⟩
    have hlen : (addL sz ls o).length = ls.length + 1 := by simp [addL, hy]
    have hmap : (addL sz ls o).map (Value.int .i64) = ls.map (Value.int .i64) ++ [.int .i64 o] := by simp [addL, hy]
    have hg'f : g' ≠ f := by omega
    have hf1 : w1.heap[f]? = w.heap[f]? := (hgrow.block f (by simp; omega) (by simpa using Ne.symm hgf)).trans (blk_old hfl)
    refine ⟨rfl, g', by omega, ⟨hg'f, p, capN, ?_⟩, ?_⟩
    · rcases hown1.2 with ⟨hx, _⟩ | ⟨g2, cap2, cur2, hx, _, q1, q2, q3, q4, q5⟩
      · simp at hx
      · simp only [Value.slice.injEq, Option.some.injEq, Addr.mk.injEq, and_true, true_and] at hx
        obtain ⟨rfl, rfl⟩ := hx
        refine ⟨cur2, ?_, ?_, by omega, q3, by omega, ?_⟩
        · rw [blk_set (hf1.trans hf), hlen]; simp
        · rw [blk_set_ne hg'f]; exact q1
        · rw [hlen, hmap, ← q5]; simp
    · refine Below.setCell (((Below.refl B w).alloc (by omega) _).grown hgrow (by simp; omega) ?_) hBf _
      intro k hk
      simp at hk; omega
  · refine (addLine_no f g ls.length cap sz (lastOf ls) o w c3 c4 h1 (by omega) (cl _ (by omega)) (by omega)).mono ?_
    rintro e w' ⟨rfl, rfl⟩
    exact ⟨rfl, g, hBg, by rw [addL, if_neg hy]; exact h, Below.refl _ _⟩

end Go.Proofs.Yoebiw.Src
