/-
  The contract of zzCloneInts; the three byte-bounds.
-/
import Derived.Test.YoebiwAddLine
import Derived.WalkSpells
import Derived.OpenShut
import Derived.WalkLawsBesides
namespace Go.Proofs.Yoebiw.Src
open Go.ChangeShapes Go.WideShapes Go.ChangeAt Go.RowKit

/-- A slice of integers that came in: nil, or a row of 'cap' cells. -/
def IsRow (k : IntKind) (w : World) (a : Option Addr) (len cap : Nat) (zs : List Int) : Prop :=
  (a = none ∧ len = 0 ∧ cap = 0 ∧ zs = []) ∨
  ∃ x, a = some x ∧ len ≤ cap ∧ cap ≤ maxLen ∧ zs.length = cap ∧ (∀ i, i < zs.length → w.cell? (x.add i) = some (.int k (zs.getD i 0))) ∧ ∀ n ∈ zs, (Lit.int k n).wf = true

/-- A slice of the call's own: nil and empty, or the n cells of block c. -/
def Mine (w : World) (a : Option Addr) (c n : Nat) (zs : List Int) : Prop :=
  (n = 0 ∧ a = none) ∨ (a = some ⟨c, 0, none⟩ ∧ c < w.heap.size ∧ ∀ j, j < n → w.cell? ⟨c, j, none⟩ = some (.int .i64 (zs.getD j 0)))

set_option maxHeartbeats 400000 in
theorem clone_nil (w : World) : Calls Ebig.prog 8 #[.slice none 0 0] w fun e w' => e = .returned (.slice none 0 0) ∧ w' = w := by
  have h := fun w a n c n' c' => Lib.run_eql_slice_nil (P := Ebig.prog) w 22 3 a n c n' c' Ebig.underlying22
  go_enter Ebig.func8, Ebig.ntmps8
  go_wp2
  go_ret
  exact ⟨rfl, rfl⟩

/-- 'make([]int, n)', n at most a million. -/
theorem make_n (n : Nat) (hn : n ≤ 2000000) : ∃ C : Array Value, C.size = n ∧ ∀ w, (Instr.makeSlice 22 (.int .i64 n) (.int .i64 n)).run Ebig.prog w = .ok (.slice (some ⟨w.heap.size, 0, none⟩) n n) (w.alloc (.cells C 3)) := by
  obtain ⟨i0, hi, hz0, hz1, hz2⟩ := info_parts info3
  refine ⟨madeCells (Value.int .i64 0).cells (n * 1), by rw [size_madeCells]; omega, fun w => ?_⟩
  have h := run_make (P := Ebig.prog) w 22 3 i0 (.int .i64 0) Ebig.underlying22 hi hz0 .i64 .i64 n n (by omega) (by omega) (by rw [hz2]; omega) (by omega)
  rw [hz1] at h
  simpa using h

set_option maxHeartbeats 1000000 in
theorem clone_zero (x : Addr) (cap : Nat) (w : World) : Calls Ebig.prog 8 #[.slice (some x) 0 cap] w fun e w' => e = .returned (.slice (some ⟨w.heap.size, 0, none⟩) 0 0) ∧ w' = w.alloc (.cells #[] 3) := by
  have h := fun w a n c n' c' => Lib.run_eql_slice_nil (P := Ebig.prog) w 22 3 a n c n' c' Ebig.underlying22
  obtain ⟨C, hC, hmk⟩ := make_n 0 (by omega)
  have hC0 : C = #[] := by simpa using hC
  subst hC0
  simp only [Int.natCast_zero] at hmk
  go_enter Ebig.func8, Ebig.ntmps8
  go_wp2
  go_loop [4] (fun i => i = .int .i64 0) (fun _ => 0)
  case atStart => rfl
  case round =>
    subst hrel
    go_wp2
    go_ret
    exact ⟨rfl, rfl⟩

/-- The store of one element of the copy. -/
theorem clone_step {w wr : World} {H n k : Nat} {zs : List Int} {cur : Array Value} (hb : wr.heap[H]? = some (.cells cur 3 (0, 0))) (hs : cur.size = n) (hk : k < n)
    (hc : ∀ j, j < k → cur[j]? = some (.int .i64 (zs.getD j 0))) (hbel : Below H w wr) (hz : wr.heap.size = H + 1) :
    (∃ cur', (wr.setCell ⟨H, k, none⟩ (.int .i64 (zs.getD k 0))).heap[H]? = some (.cells cur' 3 (0, 0)) ∧ cur'.size = n ∧ ∀ j, j < k + 1 → cur'[j]? = some (.int .i64 (zs.getD j 0))) ∧
      Below H w (wr.setCell ⟨H, k, none⟩ (.int .i64 (zs.getD k 0))) ∧ (wr.setCell ⟨H, k, none⟩ (.int .i64 (zs.getD k 0))).heap.size = H + 1 := by
  refine ⟨⟨_, blk_set hb _, by simpa using hs, ?_⟩, hbel.setCell (Nat.le_refl _) _, by simpa using hz⟩
  intro j hj
  by_cases e : j = k
  · subst e; simp [hs, hk]
  · rw [Array.getElem?_setIfInBounds_ne (by omega)]
    exact hc j (by omega)

set_option maxHeartbeats 1000000 in
theorem clone_some (b off n cap : Nat) (zs : List Int) (w : World) (hn : n ≤ 2000000) (hb : b < w.heap.size) (hc : ∀ j, j < n → w.cell? ⟨b, off + j, none⟩ = some (.int .i64 (zs.getD j 0))) :
    Calls Ebig.prog 8 #[.slice (some ⟨b, off, none⟩) n cap] w fun e w' => e = .returned (.slice (some ⟨w.heap.size, 0, none⟩) n n) ∧ Below w.heap.size w w' ∧ w'.heap.size = w.heap.size + 1 ∧
      ∀ j, j < n → w'.cell? ⟨w.heap.size, j, none⟩ = some (.int .i64 (zs.getD j 0)) := by
  have h := fun w a n c n' c' => Lib.run_eql_slice_nil (P := Ebig.prog) w 22 3 a n c n' c' Ebig.underlying22
  obtain ⟨C, hC, hmk⟩ := make_n n hn
  have HC := hide hc
  have HS := hide hC
  clear hc hC
  go_enter Ebig.func8, Ebig.ntmps8
  go_wp2
  go_loopw [4] (fun i wr => ∃ k : Nat, k ≤ n ∧ i = .int .i64 k ∧ (∃ cur, wr.heap[w.heap.size]? = some (.cells cur 3 (0, 0)) ∧ cur.size = n ∧ ∀ j, j < k → cur[j]? = some (.int .i64 (zs.getD j 0))) ∧
      Below w.heap.size w wr ∧ wr.heap.size = w.heap.size + 1) (fun i _ => n - (intOf i).toNat)
  case atStart => exact ⟨0, Nat.zero_le _, rfl, ⟨C, blk_new rfl, unhide HS, fun j hj => by omega⟩, (Below.refl _ _).alloc (Nat.le_refl _) _, by simp⟩
  case round =>
    obtain ⟨k, hk, rfl, ⟨cur, hcur, hsz, hcs⟩, hbel, hhs⟩ := hrel
    by_cases hlt : k < n
    · have hst := clone_step hcur hsz hlt hcs hbel hhs
      have g1 : wr.cell? ⟨b, off + k, none⟩ = some (.int .i64 (zs.getD k 0)) := (hbel.cell (p := ⟨b, off + k, none⟩) hb).trans ((unhide HC) k hlt)
      obtain ⟨v, hv⟩ : ∃ v, wr.cell? ⟨w.heap.size, k, none⟩ = some v := ⟨_, (blk_cell hcur k).trans (Array.getElem?_eq_getElem (by omega))⟩
      have hf : wr.frozen? ⟨w.heap.size, k, none⟩ = false := frozen_of_row wr _ k _ _ hcur
      have HST := hide hst
      generalize zs.getD k 0 = z at g1 HST
      clear hst hcur hsz hcs hbel hhs HC HS hmk h
      go_wp2
      go_roundw
      case rel => exact ⟨k + 1, by omega, by go_num, (unhide HST).1, (unhide HST).2.1, (unhide HST).2.2⟩
      case measure => simp [intOf]; omega
    · have HB := hide hbel
      have HH := hide hhs
      have HQ : Hid (∀ j, j < n → wr.cell? ⟨w.heap.size, j, none⟩ = some (.int .i64 (zs.getD j 0))) := fun j hj => (blk_cell hcur j).trans (hcs j (by omega))
      clear hcur hsz hcs hbel hhs HC HS hmk h
      go_wp2
      go_ret
      exact ⟨rfl, unhide HB, unhide HH, unhide HQ⟩

theorem clone_c (a : Option Addr) (len cap : Nat) (zs : List Int) (w : World) (hr : IsRow .i64 w a len cap zs) (hn : len ≤ 2000000) :
    Calls Ebig.prog 8 #[.slice a len cap] w fun e w' => ∃ a', e = .returned (.slice a' len len) ∧ Below w.heap.size w w' ∧ Mine w' a' w.heap.size len zs := by
  rcases hr with ⟨rfl, rfl, rfl, rfl⟩ | ⟨x, rfl, hl, _, hz, hc, _⟩
  · refine (clone_nil w).mono ?_
    rintro e w' ⟨rfl, rfl⟩
    exact ⟨none, rfl, Below.refl _ _, .inl ⟨rfl, rfl⟩⟩
  · by_cases h0 : len = 0
    · subst h0
      refine (clone_zero x cap w).mono ?_
      rintro e w' ⟨rfl, rfl⟩
      exact ⟨_, rfl, (Below.refl _ _).alloc (Nat.le_refl _) _, .inr ⟨rfl, by simp, fun j hj => by omega⟩⟩
    · obtain ⟨b, off, rfl, hcc⟩ := ints_at hc (by omega)
      have hb : b < w.heap.size := World.block_lt_of_cell? w _ (hcc 0 (by omega))
      refine (clone_some b off len cap zs w hn hb (fun j hj => hcc j (by omega))).mono ?_
      rintro e w' ⟨rfl, h1, h2, h3⟩
      exact ⟨_, rfl, h1, .inr ⟨rfl, by omega, h3⟩⟩

end Go.Proofs.Yoebiw.Src
