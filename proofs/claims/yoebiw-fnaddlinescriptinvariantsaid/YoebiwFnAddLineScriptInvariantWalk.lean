/-
  The walk of FnAddLineScriptInvariant.
-/
import Derived.Test.YoebiwLines
namespace Go.Proofs.Yoebiw.fnAddLineScriptInvariant
open Go.ChangeShapes Go.WideShapes Go.ChangeAt Go.RowKit
open Go.Proofs.Yoebiw.Src

/-- What holds at the head of each round of the script. -/
def Rel (bs sz : Int) (len B F : Nat) (nm : ByteArray) (w1 : World) (c l i : Value) (wr : World) : Prop :=
  ∃ (k : Nat) (ls : List Int) (g : Nat), k ≤ len ∧ i = .int .i64 k ∧ c = .int .i64 ls.length ∧ l = .int .i64 (bs + lastOf ls) ∧ LineTab sz ls ∧ ls.length ≤ k + 1 ∧ FileAt wr F g nm bs sz ls ∧ B ≤ g ∧ Below B w1 wr

set_option maxRecDepth 100000 in
set_option maxHeartbeats 2000000 in
theorem walk_main (bs sz : Int) (a : Option Addr) (len cap : Nat) (zs : List Int) (w : World) (hr : IsRow .i64 w a len cap zs) (hlen : len ≤ 131072)
    (b0 : 1 ≤ bs) (s0 : 0 ≤ sz) (s1 : sz ≤ 9223372036854775805) (b1 : bs ≤ 9223372036854775806 - sz) :
    Calls Ebig.prog 4 #[.int .i64 bs, .int .i64 sz, .slice a len cap] w fun e w' => e = .returned (.bool true) ∧ Below w.heap.size w w' := by
  have Hr := hide hr
  clear hr
  go_enter Ebig.func4, Ebig.ntmps4
  go_wp2_with fail
  refine (bytes4_yes bs sz a len cap _ (by omega)).mono ?_
  rintro e w' ⟨rfl, hw⟩; subst w'
  go_wp2_with fail
  refine (clone_c a len cap zs _ (unhide Hr) (by omega)).mono ?_
  rintro e w1 ⟨a1, rfl, hbel1, hmine⟩
  have Hb1 := hide hbel1
  have Hm := hide hmine
  clear hbel1 hmine Hr
  go_wp2_with fail
  refine (newFileSet_c _).mono ?_
  rintro e w' ⟨rfl, hw⟩; subst w'
  go_wp2_with fail
  refine (addFile_at w1.heap.size (w1.heap.size + 1) 1 none 0 0 (.pointer none) [] _ bs sz _ (blk_new rfl) (World.ownsRow_nil _ _ _ _) (by simp) (by simp [Value.ownBlock]) (by omega) (by omega) b0 s0 (by omega) (by omega)).mono ?_
  rintro e w2 ⟨rfl, hp⟩
  obtain ⟨hfile, hbel2⟩ := add_one hp
  have Hf := hide hfile
  have Hb2 := hide hbel2
  obtain ⟨cp, c1, c2, c3, c4, cl⟩ := facts hfile
  have l0 := cl 0 (by simp)
  clear hp hfile hbel2 cl c1 c3
  simp only [List.length_cons, List.length_nil, Nat.zero_add, List.getD_cons_zero] at c4 l0
  go_wp2_with fail
  rw [show w1.heap.size + 2 = w1.heap.size + 1 + 1 from rfl] at c2 c4
  refine (lineCount_c _ _ 1 cp _ c4).mono ?_
  rintro e w' ⟨rfl, hw⟩; subst w'
  go_wp2_with fail
  refine (lineStart_c _ _ 1 cp bs 0 1 _ c2 c4 (by omega) (by omega) (by omega) l0 (by omega) (by omega) (by omega)).mono ?_
  rintro e w' ⟨rfl, nd, hw⟩; subst w'
  replace Hf := hide (file_drewN (unhide Hf) nd)
  replace Hb2 := hide (below_drewN (unhide Hb2) nd)
  clear c2 c4 l0
  generalize w2.drewN nd = w3 at Hf Hb2 ⊢
  rw [show w1.heap.size + 2 = w1.heap.size + 1 + 1 from rfl] at Hf
  obtain ⟨F, hF⟩ : ∃ F, w1.heap.size + 1 + 1 = F := ⟨_, rfl⟩
  have hBF : w1.heap.size ≤ F := by omega
  rw [hF] at Hf ⊢
  clear hF
  go_wp2_with fail
  go_loopw [9, 10, 11] (fun c l i wr => Rel bs sz len w1.heap.size F _ w1 c l i wr) (fun _ _ i _ => len - (intOf i).toNat)
  case atStart => exact ⟨0, [0], _, Nat.zero_le _, rfl, rfl, by simp [lastOf], good_zero sz, by simp, unhide Hf, by omega, unhide Hb2⟩
  case round =>
    obtain ⟨k, ls, g, hk, rfl, rfl, rfl, hgood, hll, hfile, hBg, hbel⟩ := hrel
    have Hgood := hide hgood
    have Hfile := hide hfile
    have Hbel := hide hbel
    have hl1 := hgood.1
    have hlb := last_bd hgood s0
    clear hgood hfile hbel
    by_cases hlt : k < len
    · obtain ⟨ha1, hcell⟩ := mine_at (mine_below (unhide Hm) (unhide Hbel) (Nat.le_refl _)) hlt
      subst ha1
      generalize zs.getD k 0 = z at hcell
      go_wp2_with fail
      refine (addLine_c F g w1.heap.size _ bs sz z ls _ (unhide Hfile) hl1 (by omega) hBF hBg).mono ?_
      rintro e w4 ⟨rfl, g4, hBg4, hfile4, hbel4⟩
      have hst := add_step sz z ls
      have hag := add_again sz z ls
      have hgood4 := good_add (o := z) (unhide Hgood)
      have Hbel4 := hide ((unhide Hbel).trans hbel4)
      generalize addL sz ls z = ls4 at hst hag hgood4 hfile4
      obtain ⟨cp4, d1, d2, d3, d4, dl⟩ := facts hfile4
      have hl4 := hgood4.1
      have hb4 := last_bd hgood4 s0
      have hv : w4.cell? ⟨g4, ls4.length - 1, none⟩ = some (.int .i64 (lastOf ls4)) := dl _ (by omega)
      have Hf4 := hide hfile4
      have Hg4 := hide hgood4
      have Hag := hide hag
      clear dl hfile4 hgood4 hag hbel4 Hbel Hfile Hgood d1 d3 hcell
      generalize hL4 : lastOf ls4 = L4 at hst hb4 hv
      have HL4 := hide hL4
      clear hL4
      generalize hm : ls4.length = m at hst d4 hl4 hv
      have Hm4 := hide hm
      clear hm
      generalize lastOf ls = L at hlb hst ⊢
      generalize ls.length = n at hll hl1 hst ⊢
      rcases hst with ⟨rfl, rfl⟩ | ⟨rfl, hLL⟩
      · go_wp2_with fail
        refine (lineCount_c F _ _ cp4 _ d4).mono ?_
        rintro e w' ⟨rfl, hw⟩; subst w'
        go_wp2_with fail
        refine (lineStart_c F g4 _ cp4 bs _ _ _ d2 d4 (by omega) (by omega) (by omega) (by rw [Int.toNat_natCast]; exact hv) (by omega) (by omega) (by omega)).mono ?_
        rintro e w' ⟨rfl, nd4, hw⟩; subst w'
        go_wp2_with fail
        refine (addLine_c F g4 w1.heap.size _ bs sz z ls4 _ (file_drewN (unhide Hf4) nd4) (unhide Hg4).1 (by rw [unhide Hm4]; omega) hBF hBg4).mono ?_
        rintro e w6 ⟨rfl, g6, hBg6, hfile6, hbel6⟩
        rw [unhide Hag] at hfile6
        have Hbel6 := hide ((below_drewN (unhide Hbel4) nd4).trans hbel6)
        obtain ⟨cp6, e1, e2, e3, e4, el⟩ := facts hfile6
        rw [unhide Hm4] at e4
        have Hf6 := hide hfile6
        clear e1 e2 e3 el hfile6 hbel6 d2 d4 hv
        go_wp2_with fail
        refine (lineCount_c F _ _ cp6 _ e4).mono ?_
        rintro e w' ⟨rfl, hw⟩; subst w'
        clear e4
        go_wp2_with fail
        go_roundw
        case rel => exact ⟨k + 1, ls4, g6, by omega, by go_num, by first | (rw [unhide Hm4]; done) | (rw [unhide Hm4]; go_num), by rw [unhide HL4], unhide Hg4, by rw [unhide Hm4]; omega, unhide Hf6, hBg6, unhide Hbel6⟩
        case measure => simp [intOf]; omega
      · go_wp2_with fail
        refine (lineCount_c F _ _ cp4 _ d4).mono ?_
        rintro e w' ⟨rfl, hw⟩; subst w'
        go_wp2_with fail
        refine (lineStart_c F g4 _ cp4 bs _ _ _ d2 d4 (by omega) (by omega) (by omega) (by rw [show ((n : Int) + 1).toNat - 1 = n + 1 - 1 by omega]; exact hv) (by omega) (by omega) (by omega)).mono ?_
        rintro e w' ⟨rfl, nd4, hw⟩; subst w'
        go_wp2_with fail
        refine (addLine_c F g4 w1.heap.size _ bs sz z ls4 _ (file_drewN (unhide Hf4) nd4) (unhide Hg4).1 (by rw [unhide Hm4]; omega) hBF hBg4).mono ?_
        rintro e w6 ⟨rfl, g6, hBg6, hfile6, hbel6⟩
        rw [unhide Hag] at hfile6
        have Hbel6 := hide ((below_drewN (unhide Hbel4) nd4).trans hbel6)
        obtain ⟨cp6, e1, e2, e3, e4, el⟩ := facts hfile6
        rw [unhide Hm4] at e4
        have Hf6 := hide hfile6
        clear e1 e2 e3 el hfile6 hbel6 d2 d4 hv
        go_wp2_with fail
        refine (lineCount_c F _ _ cp6 _ e4).mono ?_
        rintro e w' ⟨rfl, hw⟩; subst w'
        clear e4
        go_wp2_with fail
        go_roundw
        case rel => exact ⟨k + 1, ls4, g6, by omega, by go_num, by first | (rw [unhide Hm4]; done) | (rw [unhide Hm4]; go_num), by rw [unhide HL4], unhide Hg4, by rw [unhide Hm4]; omega, unhide Hf6, hBg6, unhide Hbel6⟩
        case measure => simp [intOf]; omega
    · obtain ⟨cp4, d1, d2, d3, d4, dl⟩ := facts (unhide Hfile)
      have dl0 : wr.cell? ⟨g, 0, none⟩ = some (.int .i64 0) := by rw [dl 0 (by omega), (unhide Hgood).2.1]
      have Hdl := hide dl
      clear dl d1 d2 d3 Hm
      have Hbel0 : Hid (Below w.heap.size w wr) := (unhide Hb1).trans ((unhide Hbel).mono (unhide Hb1).size)
      clear Hbel Hb1 Hb2 Hf
      generalize hn : ls.length = n at hll hl1 d4 Hdl ⊢
      have Hn := hide hn
      clear hn
      have q1 : decide ((n : Int) < 1) = false := by simp; omega
      have q2 : (0 : Int) < (n : Int) := by omega
      go_wp2_with fail
      go_quiet ((go_at_call 12; exact Calls.quiet_of_same (lineCount_c F _ _ cp4 _ (by exact d4))))
      clear q1 q2
      go_wp2_with fail
      go_loopw [15] (fun i wx => ∃ k : Nat, 1 ≤ k ∧ k ≤ n ∧ i = .int .i64 k ∧ wx.cell? ⟨F, 4, none⟩ = some (.slice (some ⟨g, 0, none⟩) n cp4) ∧
          Hid (∀ j, j < n → wx.cell? ⟨g, j, none⟩ = some (.int .i64 (ls.getD j 0))) ∧ Hid (Below w.heap.size w wx)) (fun i _ => n - (intOf i).toNat)
      case atStart => exact ⟨1, Nat.le_refl _, hl1, rfl, d4, Hdl, hide (below_drewN (unhide Hbel0) _)⟩
      case round =>
        clear d4 dl0 Hdl Hbel0 Hfile
        obtain ⟨j, hj1, hjn, rfl, d4, Hdl, Hbel0⟩ := hrel
        by_cases hjlt : j < n
        · have hx := (unhide Hdl) j hjlt
          have hy := (unhide Hdl) (j - 1) (by omega)
          have hxy := (unhide Hgood).2.2 j hj1 (by rw [unhide Hn]; omega)
          generalize ls.getD j 0 = x at hx hxy
          generalize ls.getD (j - 1) 0 = y at hy hxy
          have q1 : decide (x ≤ y) = false := by simp; omega
          have q2 : (0 : Int) ≤ (j : Int) - 1 := by omega
          have q3 : (j : Int) - 1 < (n : Int) := by omega
          have q4 : IntKind.i64.wrap ((j : Int) - 1) = (j : Int) - 1 := IntWalk.i64_in _ (by omega)
          have q5 : (j : Int) < (n : Int) := by omega
          go_wp2_with fail
          go_quiet (fail)
          go_wp2_with fail
          go_roundw
          case rel => exact ⟨j + 1, by omega, by omega, by go_num, d4, Hdl, hide (below_drewN (unhide Hbel0) _)⟩
          case measure => simp [intOf]; omega
        · go_wp2_with fail
          go_ret
          exact ⟨rfl, unhide Hbel0⟩

set_option maxRecDepth 100000 in
set_option maxHeartbeats 1000000 in
theorem walk_long (bs sz : Int) (a : Option Addr) (len cap : Nat) (w : World) (h : 1048576 < len) :
    Calls Ebig.prog 4 #[.int .i64 bs, .int .i64 sz, .slice a len cap] w fun e w' => e = .returned (.bool true) ∧ Below w.heap.size w w' := by
  go_enter Ebig.func4, Ebig.ntmps4
  go_wp2_with fail
  refine (bytes4_no bs sz a len cap _ h).mono ?_
  rintro e w' ⟨rfl, hw⟩; subst w'
  go_wp2_with fail
  go_ret
  exact ⟨rfl, Below.refl _ _⟩

set_option maxRecDepth 100000 in
set_option maxHeartbeats 1000000 in
theorem walk_out (bs sz : Int) (a : Option Addr) (len cap : Nat) (w : World) (h0 : len ≤ 1048576) (h : 131072 < len ∨ len ≤ 131072 ∧ (bs < 1 ∨ sz < 0 ∨ 9223372036854775805 < sz)) :
    Calls Ebig.prog 4 #[.int .i64 bs, .int .i64 sz, .slice a len cap] w fun e w' => e = .returned (.bool true) ∧ Below w.heap.size w w' := by
  rcases h with h | ⟨h1, h | h | h⟩
  all_goals
    go_enter Ebig.func4, Ebig.ntmps4
    go_wp2_with fail
    refine (bytes4_yes bs sz a len cap _ h0).mono ?_
    rintro e w' ⟨rfl, hw⟩; subst w'
    go_wp2_with fail
    all_goals
      go_ret
      exact ⟨rfl, Below.refl _ _⟩

set_option maxRecDepth 100000 in
set_option maxHeartbeats 1000000 in
theorem walk_far (bs sz : Int) (a : Option Addr) (len cap : Nat) (w : World) (h0 : len ≤ 131072) (h1 : 1 ≤ bs) (h2 : 0 ≤ sz) (h3 : sz ≤ 9223372036854775805) (h4 : 9223372036854775806 - sz < bs) :
    Calls Ebig.prog 4 #[.int .i64 bs, .int .i64 sz, .slice a len cap] w fun e w' => e = .returned (.bool true) ∧ Below w.heap.size w w' := by
  go_enter Ebig.func4, Ebig.ntmps4
  go_wp2_with fail
  refine (bytes4_yes bs sz a len cap _ (by omega)).mono ?_
  rintro e w' ⟨rfl, hw⟩; subst w'
  go_wp2_with fail
  all_goals
    go_ret
    exact ⟨rfl, Below.refl _ _⟩

theorem walk (bs sz : Int) (a : Option Addr) (len cap : Nat) (zs : List Int) (w : World) (hr : IsRow .i64 w a len cap zs) :
    Calls Ebig.prog 4 #[.int .i64 bs, .int .i64 sz, .slice a len cap] w fun e w' => e = .returned (.bool true) ∧ Below w.heap.size w w' := by
  by_cases c1 : 1048576 < len
  · exact walk_long bs sz a len cap w c1
  · by_cases c2 : 131072 < len ∨ len ≤ 131072 ∧ (bs < 1 ∨ sz < 0 ∨ 9223372036854775805 < sz)
    · exact walk_out bs sz a len cap w (by omega) c2
    · by_cases c3 : 9223372036854775806 - sz < bs
      · exact walk_far bs sz a len cap w (by omega) (by omega) (by omega) (by omega) c3
      · exact walk_main bs sz a len cap zs w hr (by omega) (by omega) (by omega) (by omega) (by omega)

end Go.Proofs.Yoebiw.fnAddLineScriptInvariant
