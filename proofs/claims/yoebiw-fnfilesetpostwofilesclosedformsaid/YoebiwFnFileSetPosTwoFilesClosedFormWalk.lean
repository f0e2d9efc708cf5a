/-
  The walk of FnFileSetPosTwoFilesClosedForm.
-/
import Derived.Test.YoebiwAddFile
namespace Go.Proofs.Yoebiw.fnFileSetPosTwoFilesClosedForm
open Go.ChangeShapes Go.WideShapes Go.ChangeAt Go.RowKit
open Go.Proofs.Yoebiw.Src

theorem fileSetPos_in (f : Nat) (bs sz o : Int) (w : World) (h2 : w.cell? ⟨f, 2, none⟩ = some (.int .i64 bs)) (h3 : w.cell? ⟨f, 3, none⟩ = some (.int .i64 sz)) (ho : o ≤ sz)
    (hb : 0 ≤ bs) (hl : -9223372036854775808 ≤ o) (hm : bs + sz ≤ 9223372036854775807) :
    Calls Ebig.prog 16 #[.pointer (some ⟨f, 0, none⟩), .int .i64 o] w fun e w' => e = .returned (.int .i64 (bs + o)) ∧ w' = w := by
  have h := fileSetPos_c f bs sz o w h2 h3 ho
  rwa [IntWalk.wrap64_in _ (by omega)] at h

/-- A fresh file, as its readers want it. -/
def Fresh (w : World) (f : Nat) (bs sz : Int) : Prop :=
  ∃ g cap, w.cell? ⟨f, 2, none⟩ = some (.int .i64 bs) ∧ w.cell? ⟨f, 3, none⟩ = some (.int .i64 sz) ∧ w.cell? ⟨f, 4, none⟩ = some (.slice (some ⟨g, 0, none⟩) 1 cap) ∧ w.cell? ⟨g, 0, none⟩ = some (.int .i64 0)

theorem fresh_of {w : World} {f g : Nat} {nm : ByteArray} {bs sz : Int} (h : FileAt w f g nm bs sz [0]) : Fresh w f bs sz := by
  obtain ⟨_, p, cap, cur, hf, hg, h1, _, hc, ht⟩ := h
  refine ⟨g, cap, blk_cell hf 2, blk_cell hf 3, blk_cell hf 4, (blk_cell hg 0).trans ?_⟩
  have h2 : (cur.toList.take 1)[0]? = some (.int .i64 0) := by have h3 := congrArg (fun l : List Value => l[0]?) ht; exact h3
  rw [List.getElem?_take_of_lt (by omega)] at h2
  simpa using h2

theorem keep {w w' : World} {f g : Nat} {nm : ByteArray} {bs sz : Int} {ls : List Int} (h : FileAt w f g nm bs sz ls) (hf : w'.heap[f]? = w.heap[f]?) (hg : w'.heap[g]? = w.heap[g]?) : FileAt w' f g nm bs sz ls := by
  obtain ⟨h0, p, cap, cur, h1, h2, r⟩ := h
  exact ⟨h0, p, cap, cur, hf.trans h1, hg.trans h2, r⟩

/-- The set behind the first file. -/
theorem one_file {w w1 : World} {nm : ByteArray} {b size : Int} (h : AddFilePost (w.alloc (.cells #[.int .i64 1, .slice none 0 0, .pointer none] 45)) w1 w.heap.size (w.heap.size + 1) none 0 0 nm b size) :
    ∃ cap xs, w1.heap[w.heap.size]? = some (.cells #[.int .i64 (b + (size + 1)), .slice (some ⟨w.heap.size + 4, 0, none⟩) 1 cap, .pointer (some ⟨w.heap.size + 2, 0, none⟩)] 45 (0, 0)) ∧
      w1.ownsRow (w.heap.size + 1) 27 1 (.slice (some ⟨w.heap.size + 4, 0, none⟩) 1 cap) 1 xs := by
  obtain ⟨_, ⟨g, cap, xs, h1, h2, h3⟩, _⟩ := h
  have hg : g = w.heap.size + 4 := by
    rcases h3 with h3 | h3
    · simp [Value.ownBlock] at h3
    · simpa using h3
  subst hg
  exact ⟨cap, xs, by simpa using h1, h2⟩

theorem two_files {w w1 w2 : World} {nm nm' : ByteArray} {b b' size size' : Int} {cap : Nat} (h : AddFilePost (w.alloc (.cells #[.int .i64 1, .slice none 0 0, .pointer none] 45)) w1 w.heap.size (w.heap.size + 1) none 0 0 nm b size)
    (h' : AddFilePost w1 w2 w.heap.size (w.heap.size + 1) (some ⟨w.heap.size + 4, 0, none⟩) 1 cap nm' b' size') :
    Fresh w2 (w.heap.size + 2) b size ∧ Fresh w2 (w1.heap.size + 1) b' size' ∧ Below w.heap.size w w2 := by
  obtain ⟨k1, _, k2, k3, k4⟩ := h
  obtain ⟨j1, _, j2, j3, j4⟩ := h'
  simp only [World.size_alloc] at k1 k3 k4
  refine ⟨fresh_of (keep k1 (j4 _ (by omega) (by omega) ?_) (j4 _ (by omega) (by omega) ?_)), fresh_of j1, j2.os.trans k2.os, j2.tape.trans k2.tape, j2.output.trans k2.output, by omega, ?_⟩
  · simp [Value.ownBlock]
  · simp [Value.ownBlock]
  · intro k hk
    rw [j4 k (by omega) (by omega) (by simp [Value.ownBlock]; omega), k4 k (by omega) (by omega) (by simp [Value.ownBlock])]
    exact blk_old hk

set_option maxHeartbeats 1000000 in
theorem walk_main (s1 s2 o1 o2 : Int) (w : World) (a0 : 0 ≤ s1) (a1 : s1 ≤ 9223372036854775804) (b0 : 0 ≤ s2) (b1 : s2 ≤ 9223372036854775804 - s1) (ho1 : o1 ≤ s1) (ho2 : o2 ≤ s2)
    (l1 : -9223372036854775808 ≤ o1) (l2 : -9223372036854775808 ≤ o2) :
    Calls Ebig.prog 6 #[.int .i64 s1, .int .i64 s2, .int .i64 o1, .int .i64 o2] w fun e w' => e = .returned (.bool true) ∧ Below w.heap.size w w' := by
  go_enter Ebig.func6, Ebig.ntmps6
  go_wp2_with fail
  refine (newFileSet_c _).mono ?_
  rintro e w1 ⟨rfl, rfl⟩
  go_wp2_with fail
  refine (addFile_low w.heap.size (w.heap.size + 1) 1 none 0 0 (.pointer none) [] _ (-1) s1 _ (blk_new rfl) (World.ownsRow_nil _ _ _ _) (by simp) (by simp [Value.ownBlock]) (by omega) (by omega) a0 (by omega) (by omega)).mono ?_
  rintro e w1 ⟨rfl, hp1⟩
  obtain ⟨cap, xs, hs, hown⟩ := one_file hp1
  rw [show (1 : Int) + (s1 + 1) = s1 + 2 by omega] at hs
  have hsz : w.heap.size + 4 ≤ w1.heap.size := by have := hp1.2.2.2.1; simp at this; omega
  have Hp1 := hide hp1
  have Hs := hide hs
  have Hown := hide hown
  clear hp1 hs hown
  go_wp2_with fail
  refine (addFile_low w.heap.size (w.heap.size + 1) (s1 + 2) _ 1 cap _ xs _ (-1) s2 w1 (unhide Hs) (unhide Hown) (by omega) (by simp [Value.ownBlock]) (by omega) (by omega) b0 (by omega) (by omega)).mono ?_
  rintro e w2 ⟨rfl, hp2⟩
  obtain ⟨⟨g1, cp1, c12, c13, c14, c10⟩, ⟨g2, cp2, c22, c23, c24, c20⟩, hbel⟩ := two_files (unhide Hp1) hp2
  have Hbel := hide hbel
  clear Hp1 Hs Hown hp2 hbel
  go_wp2_with fail
  rw [show w.heap.size + 2 = w.heap.size + 1 + 1 from rfl] at c12 c13 c14
  generalize w.heap.size + 1 + 1 = F1 at c12 c13 c14 ⊢
  generalize w1.heap.size + 1 = F2 at c22 c23 c24 ⊢
  refine (fileSetPos_in F1 1 s1 o1 _ c12 c13 ho1 (by omega) l1 (by omega)).mono ?_
  rintro e w3 ⟨rfl, rfl⟩
  go_wp2_with fail
  refine (fileSetPos_in F2 (s1 + 2) s2 o2 _ c22 c23 ho2 (by omega) l2 (by omega)).mono ?_
  rintro e w3 ⟨rfl, rfl⟩
  go_wp2_with fail
  refine (lineCount_c F1 _ 1 cp1 _ c14).mono ?_
  rintro e w3 ⟨rfl, rfl⟩
  go_wp2_with fail
  refine (lineCount_c F2 _ 1 cp2 _ c24).mono ?_
  rintro e w3 ⟨rfl, rfl⟩
  go_wp2_with fail
  refine (lineStart_c F1 g1 1 cp1 1 0 1 _ c12 c14 (by omega) (by omega) (by omega) c10 (by omega) (by omega) (by omega)).mono ?_
  rintro e w3 ⟨rfl, n1, rfl⟩
  go_wp2_with fail
  refine (fileSetPos_in F1 1 s1 0 _ (by exact c12) (by exact c13) (by omega) (by omega) (by omega) (by omega)).mono ?_
  rintro e w3 ⟨rfl, rfl⟩
  go_wp2_with fail
  refine (lineStart_c F2 g2 1 cp2 (s1 + 2) 0 1 _ (by exact c22) (by exact c24) (by omega) (by omega) (by omega) (by exact c20) (by omega) (by omega) (by omega)).mono ?_
  rintro e w3 ⟨rfl, n2, rfl⟩
  go_wp2_with fail
  refine (fileSetPos_in F2 (s1 + 2) s2 0 _ (by exact c22) (by exact c23) (by omega) (by omega) (by omega) (by omega)).mono ?_
  rintro e w3 ⟨rfl, rfl⟩
  by_cases hpos : 0 ≤ o1 ∧ 0 ≤ o2
  · obtain ⟨p1, p2⟩ := hpos
    go_wp2_with fail
    refine (offset_c F1 1 s1 (1 + o1) _ (by exact c12) (by exact c13) (by omega) (by omega) (by omega) (by omega) (by omega)).mono ?_
    rintro e w3 ⟨rfl, n3, rfl⟩
    go_wp2_with fail
    refine (offset_c F2 (s1 + 2) s2 (s1 + 2 + o2) _ (by exact c22) (by exact c23) (by omega) (by omega) (by omega) (by omega) (by omega)).mono ?_
    rintro e w3 ⟨rfl, n4, rfl⟩
    go_wp2_with fail
    refine (fileSetPos_in F1 1 s1 s1 _ (by exact c12) (by exact c13) (by omega) (by omega) (by omega) (by omega)).mono ?_
    rintro e w3 ⟨rfl, rfl⟩
    go_wp2_with fail
    refine (fileSetPos_in F2 (s1 + 2) s2 0 _ (by exact c22) (by exact c23) (by omega) (by omega) (by omega) (by omega)).mono ?_
    rintro e w3 ⟨rfl, rfl⟩
    go_wp2_with fail
    go_ret
    exact ⟨rfl, by simpa using below_drewN (unhide Hbel) _⟩
  · go_wp2_with fail
    all_goals
      go_ret
      exact ⟨rfl, by simpa using below_drewN (unhide Hbel) _⟩

set_option maxHeartbeats 1000000 in
theorem walk_out1 (s1 s2 o1 o2 : Int) (w : World) (h : s1 < 0 ∨ 9223372036854775804 < s1 ∨ s2 < 0) :
    Calls Ebig.prog 6 #[.int .i64 s1, .int .i64 s2, .int .i64 o1, .int .i64 o2] w fun e w' => e = .returned (.bool true) ∧ Below w.heap.size w w' := by
  rcases h with h | h | h
  all_goals
    go_enter Ebig.func6, Ebig.ntmps6
    go_wp2_with fail
    all_goals
      go_ret
      exact ⟨rfl, Below.refl _ _⟩

set_option maxHeartbeats 1000000 in
theorem walk_out2 (s1 s2 o1 o2 : Int) (w : World) (a0 : 0 ≤ s1) (a1 : s1 ≤ 9223372036854775804) (b0 : 0 ≤ s2) (h : 9223372036854775804 - s1 < s2 ∨ s2 ≤ 9223372036854775804 - s1 ∧ (s1 < o1 ∨ s2 < o2)) :
    Calls Ebig.prog 6 #[.int .i64 s1, .int .i64 s2, .int .i64 o1, .int .i64 o2] w fun e w' => e = .returned (.bool true) ∧ Below w.heap.size w w' := by
  rcases h with h | ⟨h0, h | h⟩
  all_goals
    go_enter Ebig.func6, Ebig.ntmps6
    go_wp2_with fail
    all_goals
      go_ret
      exact ⟨rfl, Below.refl _ _⟩

theorem walk (s1 s2 o1 o2 : Int) (w2 : (Lit.int .i64 o1).wf = true) (w3 : (Lit.int .i64 o2).wf = true) (w : World) :
    Calls Ebig.prog 6 #[.int .i64 s1, .int .i64 s2, .int .i64 o1, .int .i64 o2] w fun e w' => e = .returned (.bool true) ∧ Below w.heap.size w w' := by
  have k1 := (wf_i64 w2).1
  have k2 := (wf_i64 w3).1
  by_cases c1 : s1 < 0 ∨ 9223372036854775804 < s1 ∨ s2 < 0
  · exact walk_out1 s1 s2 o1 o2 w c1
  · by_cases c2 : 9223372036854775804 - s1 < s2 ∨ s2 ≤ 9223372036854775804 - s1 ∧ (s1 < o1 ∨ s2 < o2)
    · exact walk_out2 s1 s2 o1 o2 w (by omega) (by omega) (by omega) c2
    · exact walk_main s1 s2 o1 o2 w (by omega) (by omega) (by omega) (by omega) (by omega) (by omega) k1 k2

end Go.Proofs.Yoebiw.fnFileSetPosTwoFilesClosedForm
