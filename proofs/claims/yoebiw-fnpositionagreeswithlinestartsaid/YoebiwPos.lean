/-
  Contracts of searchInts, unpack, position, Position, IsValid; the place of an offset in a line table.
-/
import Derived.Test.YoebiwLines
namespace Go.Proofs.Yoebiw.Src
open Go.ChangeShapes Go.WideShapes Go.ChangeAt Go.RowKit

/-- c is the number of lines of the table that begin at x or ahead of it. -/
def CutAt (ls : List Int) (x : Int) (c : Nat) : Prop :=
  1 ≤ c ∧ c ≤ ls.length ∧ (∀ t, t < c → ls.getD t 0 ≤ x) ∧ ∀ t, c ≤ t → t < ls.length → x < ls.getD t 0

theorem cut_to {sz x : Int} {ls : List Int} (h : LineTab sz ls) (hx : 0 ≤ x) : ∀ m, 1 ≤ m → m ≤ ls.length → ∃ c, 1 ≤ c ∧ c ≤ m ∧ (∀ t, t < c → ls.getD t 0 ≤ x) ∧ ∀ t, c ≤ t → t < m → x < ls.getD t 0 := by
  intro m
  induction m with
  | zero => intro h0; omega
  | succ m ih =>
    intro _ hm
    by_cases h0 : m = 0
    · subst h0
      refine ⟨1, by omega, by omega, ?_, fun t a b => by omega⟩
      intro t ht
      have : t = 0 := by omega
      subst this
      rw [h.2.1]; exact hx
    · obtain ⟨c, c1, c2, c3, c4⟩ := ih (by omega) (by omega)
      by_cases hle : ls.getD m 0 ≤ x
      · refine ⟨m + 1, by omega, by omega, ?_, fun t a b => by omega⟩
        intro t ht
        have := good_mono h (m - t) t (by omega)
        rw [show t + (m - t) = m by omega] at this
        omega
      · refine ⟨c, c1, by omega, c3, ?_⟩
        intro t a b
        by_cases e : t = m
        · subst e; omega
        · exact c4 t a (by omega)

theorem cut_exists {sz x : Int} {ls : List Int} (h : LineTab sz ls) (hx : 0 ≤ x) : ∃ c, CutAt ls x c := by
  obtain ⟨c, c1, c2, c3, c4⟩ := cut_to h hx ls.length h.1 (Nat.le_refl _)
  exact ⟨c, c1, c2, c3, c4⟩

set_option maxHeartbeats 1000000 in
theorem search_c (g n cap c : Nat) (x : Int) (ls : List Int) (w : World) (hn : ls.length = n) (hn1 : n ≤ 1000000) (hl : ∀ i, i < n → w.cell? ⟨g, i, none⟩ = some (.int .i64 (ls.getD i 0))) (hc : CutAt ls x c) :
    Calls Ebig.prog 22 #[.slice (some ⟨g, 0, none⟩) n cap, .int .i64 x] w fun e w' => e = .returned (.int .i64 ((c : Int) - 1)) ∧ w' = w := by
  obtain ⟨c1, c2, c3, c4⟩ := hc
  rw [hn] at c2 c4
  have Hl := hide hl
  have H3 := hide c3
  have H4 := hide c4
  clear hl c3 c4 hn
  go_enter Ebig.func22, Ebig.ntmps22
  go_wp2
  go_loop [5, 6] (fun i j => ∃ a b : Nat, a ≤ c ∧ c ≤ b ∧ b ≤ n ∧ i = .int .i64 a ∧ j = .int .i64 b) (fun i j => (intOf j).toNat - (intOf i).toNat)
  case atStart => exact ⟨0, n, by omega, c2, Nat.le_refl _, rfl, rfl⟩
  case round =>
    obtain ⟨a, b, ha, hb, hbn, rfl, rfl⟩ := hrel
    by_cases hlt : a < b
    · obtain ⟨h, hh⟩ : ∃ h : Nat, (a : Int) + ((b : Int) - a) / 2 = h := ⟨a + (b - a) / 2, by omega⟩
      have h1 : a ≤ h := by omega
      have h2 : h < b := by omega
      have hcell := (unhide Hl) h (by omega)
      have h3 : h < c → ls.getD h 0 ≤ x := (unhide H3) h
      have h4 : c ≤ h → x < ls.getD h 0 := fun e => (unhide H4) h e (by omega)
      generalize ls.getD h 0 = y at hcell h3 h4
      by_cases hy : y ≤ x
      · have h5 : h < c := by omega
        clear h3 h4
        go_wp2
        go_round
        case rel => exact ⟨h + 1, b, by omega, hb, hbn, by go_num, rfl⟩
        case measure => simp [intOf]; omega
      · have h5 : c ≤ h := by omega
        clear h3 h4
        go_wp2
        go_round
        case rel => exact ⟨a, h, ha, h5, by omega, rfl, rfl⟩
        case measure => simp [intOf]; omega
    · have : a = c := by omega
      subst this
      go_wp2
      go_ret
      exact ⟨rfl, rfl⟩

set_option maxHeartbeats 1000000 in
theorem unpack_c (f g n cap c : Nat) (nm : ByteArray) (sz x : Int) (ls : List Int) (w : World) (h1 : w.cell? ⟨f, 1, none⟩ = some (.string nm)) (h4 : w.cell? ⟨f, 4, none⟩ = some (.slice (some ⟨g, 0, none⟩) n cap))
    (hn : ls.length = n) (hn1 : n ≤ 1000000) (hl : ∀ i, i < n → w.cell? ⟨g, i, none⟩ = some (.int .i64 (ls.getD i 0))) (hc : CutAt ls x c) (ht : LineTab sz ls) (hs : 0 ≤ sz) (hx0 : 0 ≤ x) (hx1 : x ≤ 9223372036854775806) :
    Calls Ebig.prog 21 #[.pointer (some ⟨f, 0, none⟩), .int .i64 x] w fun e w' => e = .returned (.tuple #[.string nm, .int .i64 c, .int .i64 (x - ls.getD (c - 1) 0 + 1)]) ∧ ∃ n, w' = w.drewN n := by
  have hv := hl (c - 1) (by have := hc.1; have := hc.2.1; omega)
  have hb := good_bd ht hs (c - 1) (by have := hc.1; have := hc.2.1; omega)
  have hle := hc.2.2.1 (c - 1) (by have := hc.1; omega)
  have c1 := hc.1
  have c2 := hc.2.1
  rw [hn] at c2
  have Hl := hide hl
  have Hc := hide hc
  have Hn := hide hn
  clear hl hc hn ht
  generalize ls.getD (c - 1) 0 = v at hv hb hle ⊢
  have q1 : (0 : Int) ≤ (c : Int) - 1 := by omega
  have q2 : (c : Int) - 1 < (n : Int) := by omega
  go_enter Ebig.func21, Ebig.ntmps21
  go_wp2_with fail
  refine (search_c g n cap c x ls _ (unhide Hn) hn1 (unhide Hl) (unhide Hc)).mono ?_
  rintro e w' ⟨rfl, hw⟩; subst w'
  clear Hl Hc Hn
  go_wp2_with fail
  go_quiet (fail)
  go_wp2_with fail
  go_ret3
  exact ⟨rfl, _, rfl⟩

/-- All that position and Position ask of the file. -/
def Asks (w : World) (f g n cap c : Nat) (nm : ByteArray) (bs sz x : Int) (ls : List Int) : Prop :=
  w.cell? ⟨f, 1, none⟩ = some (.string nm) ∧ w.cell? ⟨f, 2, none⟩ = some (.int .i64 bs) ∧ w.cell? ⟨f, 3, none⟩ = some (.int .i64 sz) ∧ w.cell? ⟨f, 4, none⟩ = some (.slice (some ⟨g, 0, none⟩) n cap) ∧
    ls.length = n ∧ n ≤ 1000000 ∧ (∀ i, i < n → w.cell? ⟨g, i, none⟩ = some (.int .i64 (ls.getD i 0))) ∧ CutAt ls x c ∧ LineTab sz ls ∧ 0 ≤ sz ∧ 0 ≤ x ∧ x ≤ sz ∧ 1 ≤ bs ∧ bs + sz ≤ 9223372036854775806 ∧ f < w.heap.size ∧ g < w.heap.size

set_option maxHeartbeats 1000000 in
theorem position_c (f g n cap c : Nat) (nm : ByteArray) (bs sz x : Int) (ls : List Int) (w : World) (hask : Asks w f g n cap c nm bs sz x ls) :
    Calls Ebig.prog 20 #[.pointer (some ⟨f, 0, none⟩), .int .i64 (bs + x)] w fun e w' => e = .returned (.agg #[.string nm, .int .i64 x, .int .i64 c, .int .i64 (x - ls.getD (c - 1) 0 + 1)]) ∧ Below w.heap.size w w' := by
  obtain ⟨h1, h2, h3, h4, hn, hn1, hl, hc, ht, hs, hx0, hxs, hb1, hb2, hf, hg⟩ := hask
  have Hl := hide hl
  have Hc := hide hc
  have Hn := hide hn
  have Ht := hide ht
  clear hl hc hn ht
  have hz : bs + x - bs = x := by omega
  obtain ⟨O, hO⟩ : ∃ O, O = Obj.cells #[Value.string { data := #[] }, Value.int .i64 x, Value.int .i64 0, Value.int .i64 0] 39 := ⟨_, rfl⟩
  have hU := unpack_c f g n cap c nm sz x ls (w.alloc O) ((World.cell?_alloc_past _ _ _ hf).trans h1) ((World.cell?_alloc_past _ _ _ hf).trans h4) (unhide Hn) hn1 (fun i hi => (World.cell?_alloc_past _ _ _ hg).trans ((unhide Hl) i hi)) (unhide Hc) (unhide Ht) hs hx0 (by omega)
  subst hO
  generalize x - ls.getD (c - 1) 0 + 1 = col at hU ⊢
  have HU := hide hU
  clear hU
  go_enter Ebig.func20, Ebig.ntmps20
  go_wp2_with fail
  refine (unhide HU).mono ?_
  rintro e w' ⟨rfl, nd, hw⟩
  have hblk : w'.heap[w.heap.size]? = some (.cells #[Value.string { data := #[] }, Value.int .i64 x, Value.int .i64 0, Value.int .i64 0] 39 (0, 0)) := by rw [hw]; exact blk_new rfl
  have hbel : Below w.heap.size w w' := by rw [hw]; exact below_drewN ((Below.refl _ _).alloc (Nat.le_refl _) _) nd
  have k0 := (blk_cell hblk 0).trans rfl
  have k2 := (blk_cell hblk 2).trans rfl
  have k3 := (blk_cell hblk 3).trans rfl
  have z0 : w'.frozen? ⟨w.heap.size, 0, none⟩ = false := frozen_of_row w' _ 0 _ _ hblk
  have z2 : w'.frozen? ⟨w.heap.size, 2, none⟩ = false := frozen_of_row w' _ 2 _ _ hblk
  have z3 : w'.frozen? ⟨w.heap.size, 3, none⟩ = false := frozen_of_row w' _ 3 _ _ hblk
  have Hblk := hide hblk
  have Hbel := hide hbel
  clear hblk hbel hw HU hz
  go_wp2_with fail
  have hfin := blk_set (i := 3) (blk_set (i := 2) (blk_set (i := 0) (unhide Hblk) (.string nm)) (.int .i64 c)) (.int .i64 col)
  have hb3 := (((unhide Hbel).setCell (p := ⟨w.heap.size, 0, none⟩) (Nat.le_refl _) (.string nm)).setCell (p := ⟨w.heap.size, 2, none⟩) (Nat.le_refl _) (.int .i64 c)).setCell (p := ⟨w.heap.size, 3, none⟩) (Nat.le_refl _) (.int .i64 col)
  generalize ((w'.setCell ⟨w.heap.size, 0, none⟩ (.string nm)).setCell ⟨w.heap.size, 2, none⟩ (.int .i64 c)).setCell ⟨w.heap.size, 3, none⟩ (.int .i64 col) = wf at hfin hb3 ⊢
  have j0 := (blk_cell hfin 0).trans rfl
  have j1 := (blk_cell hfin 1).trans rfl
  have j2 := (blk_cell hfin 2).trans rfl
  have j3 := (blk_cell hfin 3).trans rfl
  exact bodyPost_ret (v := .agg #[.string nm, .int .i64 x, .int .i64 c, .int .i64 col]) (by simp [results, Ebig.results20, go_sem, j0, j1, j2, j3]) rfl ⟨rfl, hb3⟩

theorem asks_below {w w' : World} {B f g n cap c : Nat} {nm : ByteArray} {bs sz x : Int} {ls : List Int} (h : Asks w f g n cap c nm bs sz x ls) (hb : Below B w w') (hB : w.heap.size ≤ B) : Asks w' f g n cap c nm bs sz x ls := by
  obtain ⟨h1, h2, h3, h4, hn, hn1, hl, hc, ht, hs, hx0, hxs, hb1, hb2, hf, hg⟩ := h
  have k : ∀ i, w'.cell? ⟨f, i, none⟩ = w.cell? ⟨f, i, none⟩ := fun i => hb.cell (p := ⟨f, i, none⟩) (show f < B by omega)
  have hz := hb.size
  exact ⟨(k 1).trans h1, (k 2).trans h2, (k 3).trans h3, (k 4).trans h4, hn, hn1, fun i hi => (hb.cell (p := ⟨g, i, none⟩) (show g < B by omega)).trans (hl i hi), hc, ht, hs, hx0, hxs, hb1, hb2, by omega, by omega⟩

set_option maxHeartbeats 1000000 in
theorem Position_c (f g n cap c : Nat) (nm : ByteArray) (bs sz x : Int) (ls : List Int) (w : World) (hask : Asks w f g n cap c nm bs sz x ls) :
    Calls Ebig.prog 18 #[.pointer (some ⟨f, 0, none⟩), .int .i64 (bs + x)] w fun e w' => e = .returned (.agg #[.string nm, .int .i64 x, .int .i64 c, .int .i64 (x - ls.getD (c - 1) 0 + 1)]) ∧ Below w.heap.size w w' := by
  have hk := hask
  obtain ⟨h1, h2, h3, h4, hn, hn1, hl, hc, ht, hs, hx0, hxs, hb1, hb2, hf, hg⟩ := hk
  have Hask := hide hask
  clear hl hc hn ht hask h1 h4
  have q1 : decide (bs + x < bs) = false := by simp; omega
  have q2 : (bs + x != 0) = true := by rw [bne_iff_ne]; omega
  have hP := position_c f g n cap c nm bs sz x ls
  generalize x - ls.getD (c - 1) 0 + 1 = col at hP ⊢
  have HP := hide hP
  clear hP
  go_enter Ebig.func18, Ebig.ntmps18
  go_wp2_with fail
  go_quiet (fail)
  go_wp2_with fail
  have hA : ((w.alloc (.cells #[Value.string { data := #[] }, Value.int .i64 0, Value.int .i64 0, Value.int .i64 0] 39)).drewN nq).heap[w.heap.size]? = some (.cells #[Value.string { data := #[] }, Value.int .i64 0, Value.int .i64 0, Value.int .i64 0] 39 (0, 0)) := blk_new rfl
  have hB : Below w.heap.size w ((w.alloc (.cells #[Value.string { data := #[] }, Value.int .i64 0, Value.int .i64 0, Value.int .i64 0] 39)).drewN nq) := below_drewN ((Below.refl _ _).alloc (Nat.le_refl _) _) nq
  generalize (w.alloc (.cells #[Value.string { data := #[] }, Value.int .i64 0, Value.int .i64 0, Value.int .i64 0] 39)).drewN nq = wa at hA hB ⊢
  refine ((unhide HP) wa (asks_below (unhide Hask) hB (Nat.le_refl _))).mono ?_
  rintro e w' ⟨rfl, hbel⟩
  have hblk := (hbel.block w.heap.size (lt_of_blk hA)).trans hA
  have Hbel := hide (hB.trans (hbel.mono hB.size))
  have Hblk := hide hblk
  have k0 := (blk_cell hblk 0).trans rfl
  have k1 := (blk_cell hblk 1).trans rfl
  have k2 := (blk_cell hblk 2).trans rfl
  have k3 := (blk_cell hblk 3).trans rfl
  have z0 : w'.frozen? ⟨w.heap.size, 0, none⟩ = false := frozen_of_row w' _ 0 _ _ hblk
  have z1 : w'.frozen? ⟨w.heap.size, 1, none⟩ = false := frozen_of_row w' _ 1 _ _ hblk
  have z2 : w'.frozen? ⟨w.heap.size, 2, none⟩ = false := frozen_of_row w' _ 2 _ _ hblk
  have z3 : w'.frozen? ⟨w.heap.size, 3, none⟩ = false := frozen_of_row w' _ 3 _ _ hblk
  clear hblk hbel hA hB Hask q1 q2 HP
  go_wp2_with fail
  have hfin := blk_set (i := 3) (blk_set (i := 2) (blk_set (i := 1) (blk_set (i := 0) (unhide Hblk) (.string nm)) (.int .i64 x)) (.int .i64 c)) (.int .i64 col)
  have hb3 := ((((unhide Hbel).setCell (p := ⟨w.heap.size, 0, none⟩) (Nat.le_refl _) (.string nm)).setCell (p := ⟨w.heap.size, 1, none⟩) (Nat.le_refl _) (.int .i64 x)).setCell (p := ⟨w.heap.size, 2, none⟩) (Nat.le_refl _) (.int .i64 c)).setCell (p := ⟨w.heap.size, 3, none⟩) (Nat.le_refl _) (.int .i64 col)
  generalize (((w'.setCell ⟨w.heap.size, 0, none⟩ (.string nm)).setCell ⟨w.heap.size, 1, none⟩ (.int .i64 x)).setCell ⟨w.heap.size, 2, none⟩ (.int .i64 c)).setCell ⟨w.heap.size, 3, none⟩ (.int .i64 col) = wf at hfin hb3 ⊢
  have j0 := (blk_cell hfin 0).trans rfl
  have j1 := (blk_cell hfin 1).trans rfl
  have j2 := (blk_cell hfin 2).trans rfl
  have j3 := (blk_cell hfin 3).trans rfl
  exact bodyPost_ret (v := .agg #[.string nm, .int .i64 x, .int .i64 c, .int .i64 col]) (by simp [results, Ebig.results18, go_sem, j0, j1, j2, j3]) rfl ⟨rfl, hb3⟩

set_option maxHeartbeats 400000 in
theorem isValid_c (nm : ByteArray) (x c col : Int) (w : World) (hc : 0 < c) :
    Calls Ebig.prog 19 #[.agg #[.string nm, .int .i64 x, .int .i64 c, .int .i64 col]] w fun e w' => e = .returned (.bool true) ∧ Below w.heap.size w w' := by
  go_enter Ebig.func19, Ebig.ntmps19
  go_wp2
  go_ret
  exact ⟨by simp, (Below.refl _ _).alloc (Nat.le_refl _) _⟩

end Go.Proofs.Yoebiw.Src
