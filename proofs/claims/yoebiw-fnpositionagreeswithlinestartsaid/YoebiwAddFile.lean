/-
  The contract of (*SourceFileSet).AddFile.
-/
import Derived.Test.YoebiwReaders
namespace Go.Proofs.Yoebiw.Src
open Go.ChangeShapes Go.WideShapes Go.ChangeAt Go.RowKit

theorem hide {p : Prop} (h : p) : Hid p := h
theorem unhide {p : Prop} (h : Hid p) : p := h

theorem blk_set {w : World} {b i : Nat} {cs : Array Value} {T : TypeId} (h : w.heap[b]? = some (.cells cs T (0, 0))) (u : Value) :
    (w.setCell ⟨b, i, none⟩ u).heap[b]? = some (.cells (cs.setIfInBounds i u) T (0, 0)) := by
  rw [World.setCell, Array.getElem?_modify]
  simp [h]

theorem blk_set_ne {w : World} {b c i : Nat} (h : b ≠ c) (u : Value) : (w.setCell ⟨c, i, none⟩ u).heap[b]? = w.heap[b]? :=
  Below.heap_setCell w ⟨c, i, none⟩ u b h

theorem blk_old {w : World} {o : Obj} {k : Nat} (h : k < w.heap.size) : (w.alloc o).heap[k]? = w.heap[k]? := Below.heap_alloc w o k h

theorem blk_new {w : World} {o : Obj} {H : Nat} (h : w.heap.size = H) : (w.alloc o).heap[H]? = some o := by subst h; exact heap_alloc_new w o

theorem lt_of_blk {w : World} {b : Nat} {o : Obj} (h : w.heap[b]? = some o) : b < w.heap.size := (Array.getElem?_eq_some_iff.1 h).1

/-- What AddFile leaves, the new file's base being b: the new file, the set, and nothing else turned. -/
def AddFilePost (w w' : World) (s B : Nat) (va : Option Addr) (n vc : Nat) (nm : ByteArray) (b size : Int) : Prop :=
  FileAt w' (w.heap.size + 1) w.heap.size nm b size [0] ∧
  (∃ g' cap' xs', w'.heap[s]? = some (.cells #[.int .i64 (b + (size + 1)), .slice (some ⟨g', 0, none⟩) (n + 1) cap', .pointer (some ⟨w.heap.size + 1, 0, none⟩)] 45 (0, 0)) ∧
    w'.ownsRow B 27 1 (.slice (some ⟨g', 0, none⟩) (n + 1) cap') (n + 1) xs' ∧ ((Value.slice va n vc).ownBlock = some g' ∨ g' = w.heap.size + 3)) ∧
  Below 0 w w' ∧ w.heap.size + 3 ≤ w'.heap.size ∧ ∀ k, k < w.heap.size → k ≠ s → some k ≠ (Value.slice va n vc).ownBlock → w'.heap[k]? = w.heap[k]?

theorem addFile_end (s B : Nat) (b0 b size : Int) (va : Option Addr) (n vc : Nat) (last : Value) (nm : ByteArray) (w w1 : World) (g cap : Nat) (xs : List Value)
    (hs : w.heap[s]? = some (.cells #[.int .i64 b0, .slice va n vc, last] 45 (0, 0))) (hvl : ∀ k, (Value.slice va n vc).ownBlock = some k → k < w.heap.size) (hvs : (Value.slice va n vc).ownBlock ≠ some s)
    (hown : w1.ownsRow B 27 1 (.slice (some ⟨g, 0, none⟩) (n + 1) cap) (n + 1) xs)
    (hgrow : ((((w.setCell ⟨s, 0, none⟩ (.int .i64 (b + (size + 1)))).alloc (.cells #[.int .i64 0] 3)).alloc
      (.cells #[.pointer (some ⟨s, 0, none⟩), .string nm, .int .i64 b, .int .i64 size, .slice (some ⟨w.heap.size, 0, none⟩) 1 1] 32)).alloc (.cells #[.pointer (some ⟨w.heap.size + 1, 0, none⟩)] 27)).grownBy w1 (Value.slice va n vc).ownBlock)
    (hat : (Value.slice va n vc).ownBlock = some g ∨ g = w.heap.size + 3) :
    w1.heap[s]? = some (.cells #[.int .i64 (b + (size + 1)), .slice va n vc, last] 45 (0, 0)) ∧
    AddFilePost w ((w1.setCell ⟨s, 1, none⟩ (.slice (some ⟨g, 0, none⟩) (n + 1) cap)).setCell ⟨s, 2, none⟩ (.pointer (some ⟨w.heap.size + 1, 0, none⟩))) s B va n vc nm b size := by
  have hsl := lt_of_blk hs
  have hgs : g ≠ s := by
    rcases hat with h | h
    · intro e; subst e; exact hvs h
    · omega
  have old : ∀ k, k < w.heap.size → k ≠ s → some k ≠ (Value.slice va n vc).ownBlock → w1.heap[k]? = w.heap[k]? := by
    intro k hk hks hkv
    rw [hgrow.block k (by simp; omega) hkv]
    rw [blk_old (by simp; omega), blk_old (by simp; omega), blk_old (by simp; omega), blk_set_ne hks]
  have hs1 : w1.heap[s]? = some (.cells #[.int .i64 (b + (size + 1)), .slice va n vc, last] 45 (0, 0)) := by
    rw [hgrow.block s (by simp; omega) (Ne.symm hvs)]
    rw [blk_old (by simp; omega), blk_old (by simp; omega), blk_old (by simp; omega), blk_set hs]
    simp
  have hl1 : w1.heap[w.heap.size]? = some (.cells #[.int .i64 0] 3 (0, 0)) := by
    rw [hgrow.block w.heap.size (by simp; omega) (fun e => by have := hvl _ e.symm; omega)]
    rw [blk_old (by simp; try omega), blk_old (by simp; try omega)]
    exact blk_new (by simp)
  have hf1 : w1.heap[w.heap.size + 1]? = some (.cells #[.pointer (some ⟨s, 0, none⟩), .string nm, .int .i64 b, .int .i64 size, .slice (some ⟨w.heap.size, 0, none⟩) 1 1] 32 (0, 0)) := by
    rw [hgrow.block (w.heap.size + 1) (by simp) (fun e => by have := hvl _ e.symm; omega)]
    rw [blk_old (by simp; try omega)]
    exact blk_new (by simp)
  have hz := hgrow.size
  simp at hz
  have hb1 : Below 0 w w1 := ⟨hgrow.os, hgrow.tape, hgrow.output, by omega, fun k hk => by omega⟩
  refine ⟨hs1, ⟨by omega, .pointer (some ⟨s, 0, none⟩), 1, #[.int .i64 0], ?_, ?_, by simp, by simp [maxLen], rfl, rfl⟩, ⟨g, cap, xs, ?_, ?_, hat⟩, (hb1.setCell (Nat.zero_le _) _).setCell (Nat.zero_le _) _, by simp; omega, ?_⟩
  · rw [blk_set_ne (by omega), blk_set_ne (by omega)]; exact hf1
  · rw [blk_set_ne (by omega), blk_set_ne (by omega)]; exact hl1
  · rw [blk_set (blk_set hs1 _)]; simp
  · refine ownsRow_setCell_other (ownsRow_setCell_other hown ?_ _) ?_ _ <;> simpa [Value.ownBlock] using hgs
  · intro k hk hks hkv
    rw [blk_set_ne hks, blk_set_ne hks]; exact old k hk hks hkv

set_option maxHeartbeats 1000000 in
theorem addFile_low (s B : Nat) (b0 : Int) (va : Option Addr) (n vc : Nat) (last : Value) (xs : List Value) (nm : ByteArray) (base size : Int) (w : World)
    (hs : w.heap[s]? = some (.cells #[.int .i64 b0, .slice va n vc, last] 45 (0, 0)))
    (hown : w.ownsRow B 27 1 (.slice va n vc) n xs) (hB : B ≤ w.heap.size) (hvs : (Value.slice va n vc).ownBlock ≠ some s) (hn : n ≤ 1000)
    (hb : base < 0) (hz : 0 ≤ size) (hb0 : 0 ≤ b0) (hm : b0 + size + 1 ≤ 9223372036854775807) :
    Calls Ebig.prog 10 #[.pointer (some ⟨s, 0, none⟩), .string nm, .int .i64 base, .int .i64 size] w fun e w' => e = .returned (.pointer (some ⟨w.heap.size + 1, 0, none⟩)) ∧ AddFilePost w w' s B va n vc nm b0 size := by
  obtain ⟨i0, hi, hz0, hz1, hz2⟩ := info_parts info27
  have c0 : w.cell? ⟨s, 0, none⟩ = some (.int .i64 b0) := blk_cell hs 0
  have c1 : w.cell? ⟨s, 1, none⟩ = some (.slice va n vc) := blk_cell hs 1
  have f0 : w.frozen? ⟨s, 0, none⟩ = false := frozen_of_row w s 0 _ _ hs
  have hsl : s < w.heap.size := lt_of_blk hs
  have Hs := hide hs
  have Hvs := hide hvs
  have Hown := hide hown
  clear hs hvs hown
  go_enter Ebig.func10, Ebig.ntmps10
  go_wp2_with (at_builtin; refine wpList_append_lies _ rfl (.tmp 49) (.tmp 51) 43 rfl B 27 i0 (.pointer none) 1 8 Ebig.underlying43 hi hz0 hz1 hz2 rfl (by decide) (.slice va n vc) n xs rfl ?own ⟨w.heap.size + 2, 0, none⟩ 1 1 [.pointer (some ⟨w.heap.size + 1, 0, none⟩)] rfl rfl ?c1 ?c2 (by decide) ?c3 ?c4 ?c5 (w.heap.size + 3) ?c6 ?_)
  case own => exact (((ownsRow_setCell_other (unhide Hown) (unhide Hvs) _).alloc _).alloc _).alloc _
  case c1 => intro j u hj; match j, hj with | 0, hj => simp at hj; subst hj; exact blk_cell (blk_new (by simp)) 0
  case c2 => intro u hu; simp at hu; subst hu; rfl
  case c3 => unfold maxLen; omega
  case c4 => omega
  case c5 => simp; omega
  case c6 => simp
  · intro g cap w1 hown1 hgrow hat hlt
    have hE := addFile_end s B b0 b0 size va n vc last nm w w1 g cap _ (unhide Hs) (fun k hk => ((unhide Hown).lt k hk).2) (unhide Hvs) hown1 hgrow hat
    have HE := hide hE.2
    have d1 : w1.cell? ⟨s, 1, none⟩ = some (.slice va n vc) := blk_cell hE.1 1
    have d2 : w1.cell? ⟨s, 2, none⟩ = some last := blk_cell hE.1 2
    have e1 : w1.frozen? ⟨s, 1, none⟩ = false := frozen_of_row w1 s 1 _ _ hE.1
    have e2 : w1.frozen? ⟨s, 2, none⟩ = false := frozen_of_row w1 s 2 _ _ hE.1
    clear hE hown1 hgrow hat hlt Hs Hvs Hown c0 c1 f0
    go_wp2
    go_ret
    exact ⟨rfl, unhide HE⟩

set_option maxHeartbeats 1000000 in
theorem addFile_at (s B : Nat) (b0 : Int) (va : Option Addr) (n vc : Nat) (last : Value) (xs : List Value) (nm : ByteArray) (base size : Int) (w : World)
    (hs : w.heap[s]? = some (.cells #[.int .i64 b0, .slice va n vc, last] 45 (0, 0)))
    (hown : w.ownsRow B 27 1 (.slice va n vc) n xs) (hB : B ≤ w.heap.size) (hvs : (Value.slice va n vc).ownBlock ≠ some s) (hn : n ≤ 1000)
    (hb : 0 ≤ base) (hb1 : b0 ≤ base) (hz : 0 ≤ size) (hb0 : 0 ≤ b0) (hm : base + size + 1 ≤ 9223372036854775807) :
    Calls Ebig.prog 10 #[.pointer (some ⟨s, 0, none⟩), .string nm, .int .i64 base, .int .i64 size] w fun e w' => e = .returned (.pointer (some ⟨w.heap.size + 1, 0, none⟩)) ∧ AddFilePost w w' s B va n vc nm base size := by
  obtain ⟨i0, hi, hz0, hz1, hz2⟩ := info_parts info27
  have c0 : w.cell? ⟨s, 0, none⟩ = some (.int .i64 b0) := blk_cell hs 0
  have c1 : w.cell? ⟨s, 1, none⟩ = some (.slice va n vc) := blk_cell hs 1
  have f0 : w.frozen? ⟨s, 0, none⟩ = false := frozen_of_row w s 0 _ _ hs
  have hsl : s < w.heap.size := lt_of_blk hs
  have Hs := hide hs
  have Hvs := hide hvs
  have Hown := hide hown
  clear hs hvs hown
  go_enter Ebig.func10, Ebig.ntmps10
  go_wp2_with (at_builtin; refine wpList_append_lies _ rfl (.tmp 49) (.tmp 51) 43 rfl B 27 i0 (.pointer none) 1 8 Ebig.underlying43 hi hz0 hz1 hz2 rfl (by decide) (.slice va n vc) n xs rfl ?own ⟨w.heap.size + 2, 0, none⟩ 1 1 [.pointer (some ⟨w.heap.size + 1, 0, none⟩)] rfl rfl ?c1 ?c2 (by decide) ?c3 ?c4 ?c5 (w.heap.size + 3) ?c6 ?_)
  case own => exact (((ownsRow_setCell_other (unhide Hown) (unhide Hvs) _).alloc _).alloc _).alloc _
  case c1 => intro j u hj; match j, hj with | 0, hj => simp at hj; subst hj; exact blk_cell (blk_new (by simp)) 0
  case c2 => intro u hu; simp at hu; subst hu; rfl
  case c3 => unfold maxLen; omega
  case c4 => omega
  case c5 => simp; omega
  case c6 => simp
  · intro g cap w1 hown1 hgrow hat hlt
    have hE := addFile_end s B b0 base size va n vc last nm w w1 g cap _ (unhide Hs) (fun k hk => ((unhide Hown).lt k hk).2) (unhide Hvs) hown1 hgrow hat
    have HE := hide hE.2
    have d1 : w1.cell? ⟨s, 1, none⟩ = some (.slice va n vc) := blk_cell hE.1 1
    have d2 : w1.cell? ⟨s, 2, none⟩ = some last := blk_cell hE.1 2
    have e1 : w1.frozen? ⟨s, 1, none⟩ = false := frozen_of_row w1 s 1 _ _ hE.1
    have e2 : w1.frozen? ⟨s, 2, none⟩ = false := frozen_of_row w1 s 2 _ _ hE.1
    clear hE hown1 hgrow hat hlt Hs Hvs Hown c0 c1 f0
    go_wp2
    go_ret
    exact ⟨rfl, unhide HE⟩

end Go.Proofs.Yoebiw.Src
