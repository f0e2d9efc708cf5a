/-
  The walk of FnPositionAgreesWithLineStart.
-/
import Derived.Test.YoebiwRecord
import Derived.Test.YoebiwPos
namespace Go.Proofs.Yoebiw.fnPositionAgreesWithLineStart
open Go.ChangeShapes Go.WideShapes Go.ChangeAt Go.RowKit
open Go.Proofs.Yoebiw.Src

theorem fileSetPos_in (f : Nat) (bs sz o : Int) (w : World) (h2 : w.cell? ⟨f, 2, none⟩ = some (.int .i64 bs)) (h3 : w.cell? ⟨f, 3, none⟩ = some (.int .i64 sz)) (ho : o ≤ sz)
    (hb : 0 ≤ bs) (hl : 0 ≤ o) (hm : bs + sz ≤ 9223372036854775807) :
    Calls Ebig.prog 16 #[.pointer (some ⟨f, 0, none⟩), .int .i64 o] w fun e w' => e = .returned (.int .i64 (bs + o)) ∧ w' = w := by
  have h := fileSetPos_c f bs sz o w h2 h3 ho
  rwa [IntWalk.wrap64_in _ (by omega)] at h

theorem row_below {w w' : World} {a : Option Addr} {len cap : Nat} {zs : List Int} (h : IsRow .i64 w a len cap zs) (hb : Below w.heap.size w w') : IsRow .i64 w' a len cap zs := by
  rcases h with h | ⟨x, h1, h2, h3, h4, h5, h6⟩
  · exact .inl h
  · refine .inr ⟨x, h1, h2, h3, h4, fun i hi => ?_, h6⟩
    have hc := h5 i hi
    exact (hb.cell (World.block_lt_of_cell? w _ hc)).trans hc

theorem file_below {w w' : World} {B f g : Nat} {nm : ByteArray} {bs sz : Int} {ls : List Int} (h : FileAt w f g nm bs sz ls) (hb : Below B w w') (hB : w.heap.size ≤ B) : FileAt w' f g nm bs sz ls := by
  obtain ⟨h1, h2⟩ := file_lt h
  exact keep h (hb.block f (by omega)) (hb.block g (by omega))

/-- At the head of each round of the script. -/
def Rel1 (bs sz : Int) (zs : List Int) (len B F : Nat) (nm : ByteArray) (w1 : World) (i : Value) (wr : World) : Prop :=
  ∃ (k g : Nat), k ≤ len ∧ i = .int .i64 k ∧ FileAt wr F g nm bs sz (linesTo sz zs k) ∧ B ≤ g ∧ Below B w1 wr

/-- What stands all through the probes. -/
def Stand (bs sz : Int) (ls ps : List Int) (len F g c : Nat) (nm : ByteArray) (a : Option Addr) (w wx : World) : Prop :=
  FileAt wx F g nm bs sz ls ∧ Mine wx a c len ps ∧ Below w.heap.size w wx

theorem stand_below {bs sz : Int} {ls ps : List Int} {len F g c : Nat} {nm : ByteArray} {a : Option Addr} {w wx wy : World} (h : Stand bs sz ls ps len F g c nm a w wx) (hb : Below wx.heap.size wx wy) : Stand bs sz ls ps len F g c nm a w wy :=
  ⟨file_below h.1 hb (Nat.le_refl _), mine_below h.2.1 hb (Nat.le_refl _), h.2.2.trans (hb.mono h.2.2.size)⟩

set_option maxRecDepth 100000 in
set_option maxHeartbeats 4000000 in
theorem walk_main (nm : ByteArray) (bs sz : Int) (a : Option Addr) (len cap : Nat) (zs : List Int) (a' : Option Addr) (len' cap' : Nat) (ps : List Int) (w : World) (hr : IsRow .i64 w a len cap zs) (hr' : IsRow .i64 w a' len' cap' ps)
    (hnm : nm.size ≤ 65536) (hlen : len ≤ 4096) (hlen' : len' ≤ 4096) (b0 : 1 ≤ bs) (s0 : 0 ≤ sz) (s1 : sz ≤ 9223372036854775805) (b1 : bs ≤ 9223372036854775806 - sz) :
    Calls Ebig.prog 5 #[.string nm, .int .i64 bs, .int .i64 sz, .slice a len cap, .slice a' len' cap'] w fun e w' => e = .returned (.bool true) ∧ Below w.heap.size w w' := by
  have Hr := hide hr
  have Hr' := hide hr'
  clear hr hr'
  go_enter Ebig.func5, Ebig.ntmps5
  go_wp2_with fail
  refine (bytes5_any nm bs sz a a' len cap len' cap' _).mono ?_
  rintro e w' ⟨b, rfl, hw⟩; subst w'
  cases b
  · go_wp2_with fail
    go_ret
    exact ⟨rfl, Below.refl _ _⟩
  go_wp2_with fail
  refine (clone_c a len cap zs _ (unhide Hr) (by omega)).mono ?_
  rintro e w1 ⟨a1, rfl, hbel1, hmine⟩
  have Hr1 := hide (row_below (unhide Hr') hbel1)
  have Hb1 := hide hbel1
  have Hm := hide hmine
  clear hbel1 hmine Hr Hr'
  go_wp2_with fail
  refine (clone_c a' len' cap' ps _ (unhide Hr1) (by omega)).mono ?_
  rintro e w2 ⟨a2, rfl, hbel2, hmine2⟩
  replace Hm := hide (mine_below (unhide Hm) hbel2 (Nat.le_refl _))
  replace Hb1 := hide ((unhide Hb1).trans (hbel2.mono (unhide Hb1).size))
  have Hm2 := hide hmine2
  clear hmine2 hbel2 Hr1
  go_wp2_with fail
  refine (newFileSet_c _).mono ?_
  rintro e w' ⟨rfl, hw⟩; subst w'
  go_wp2_with fail
  refine (addFile_at w2.heap.size (w2.heap.size + 1) 1 none 0 0 (.pointer none) [] _ bs sz _ (blk_new rfl) (World.ownsRow_nil _ _ _ _) (by simp) (by simp [Value.ownBlock]) (by omega) (by omega) b0 s0 (by omega) (by omega)).mono ?_
  rintro e w3 ⟨rfl, hp⟩
  obtain ⟨hfile, hbel3⟩ := add_one hp
  have Hf := hide hfile
  have Hb3 := hide hbel3
  clear hp hfile hbel3
  rw [show w2.heap.size + 2 = w2.heap.size + 1 + 1 from rfl] at Hf
  go_wp2_with fail
  obtain ⟨F, hF⟩ : ∃ F, w2.heap.size + 1 + 1 = F := ⟨_, rfl⟩
  have hBF : w2.heap.size ≤ F := by omega
  rw [hF] at Hf ⊢
  clear hF
  go_loopw [13] (fun i wr => Rel1 bs sz zs len w2.heap.size F nm w2 i wr) (fun i _ => len - (intOf i).toNat)
  case atStart => exact ⟨0, _, Nat.zero_le _, rfl, unhide Hf, by omega, unhide Hb3⟩
  case round =>
    clear Hf Hb3
    obtain ⟨k, g, hk, rfl, hfile, hBg, hbel⟩ := hrel
    have Hfile := hide hfile
    have Hbel := hide hbel
    clear hfile hbel
    by_cases hlt : k < len
    · obtain ⟨ha1, hcell⟩ := mine_at (mine_below (unhide Hm) (unhide Hbel) (Nat.le_refl _)) hlt
      subst ha1
      generalize hz : zs.getD k 0 = z at hcell
      have Hz := hide hz
      clear hz
      go_wp2_with fail
      refine (addLine_c F g w2.heap.size _ bs sz z _ _ (unhide Hfile) (linesTo_good sz zs k).1 (by have := linesTo_len sz zs k; omega) hBF hBg).mono ?_
      rintro e w4 ⟨rfl, g4, hBg4, hfile4, hbel4⟩
      rw [← unhide Hz] at hfile4
      have Hf4 := hide hfile4
      have Hbel4 := hide ((unhide Hbel).trans hbel4)
      clear hfile4 hbel4 Hfile Hbel hcell
      go_wp2_with fail
      go_roundw
      case rel => exact ⟨k + 1, g4, by omega, by go_num, unhide Hf4, hBg4, unhide Hbel4⟩
      case measure => simp [intOf]; omega
    · have hke : len = k := by omega
      subst hke
      have HS : Hid (Stand bs sz (linesTo sz zs len) ps len' F g w1.heap.size nm a2 w wr) := ⟨unhide Hfile, mine_below (unhide Hm2) (unhide Hbel) (Nat.le_refl _), (unhide Hb1).trans ((unhide Hbel).mono (unhide Hb1).size)⟩
      have Ht := hide (linesTo_good sz zs len)
      have hll := linesTo_len sz zs len
      clear Hfile Hbel Hm Hm2 Hb1 hlt hk hBg
      generalize linesTo sz zs len = ls at HS Ht hll
      replace hll : ls.length ≤ 4097 := by omega
      go_wp2_with fail
      go_loopw [14] (fun i wx => ∃ k : Nat, k ≤ len' ∧ i = .int .i64 k ∧ Stand bs sz ls ps len' F g w1.heap.size nm a2 w wx) (fun i _ => len' - (intOf i).toNat)
      case atStart => exact ⟨0, Nat.zero_le _, rfl, unhide HS⟩
      case round =>
        clear HS
        obtain ⟨k, hk, rfl, hstand⟩ := hrel
        have HS := hide hstand
        clear hstand
        by_cases hlt : k < len'
        · obtain ⟨ha2, hcell⟩ := mine_at (unhide HS).2.1 hlt
          subst ha2
          generalize ps.getD k 0 = x at hcell
          by_cases hout : x < 0 ∨ sz < x
          · rcases hout with ho | ho
            all_goals
              go_wp2_with fail
              all_goals
                go_roundw
                case rel => exact ⟨k + 1, by omega, by go_num, unhide HS⟩
                case measure => simp [intOf]; omega
          · have hx0 : 0 ≤ x := by omega
            have hxs : x ≤ sz := by omega
            clear hout
            obtain ⟨cp, d1, d2, d3, d4, dl⟩ := facts (unhide HS).1
            obtain ⟨c, hcut⟩ := cut_exists (unhide Ht) hx0
            obtain ⟨hFl, hgl⟩ := file_lt (unhide HS).1
            have hask : Asks wr F g ls.length cp c nm bs sz x ls := ⟨d1, d2, d3, d4, rfl, by omega, dl, hcut, unhide Ht, s0, hx0, hxs, b0, by omega, hFl, hgl⟩
            have Hask := hide hask
            have Hcut := hide hcut
            clear hask d1 d4 dl hcut
            have e1 : bs + x - bs = x := by omega
            go_wp2_with fail
            refine (fileSetPos_in F bs sz x _ d2 d3 hxs (by omega) hx0 (by omega)).mono ?_
            rintro e w' ⟨rfl, hw⟩; subst w'
            go_wp2_with fail
            refine (offset_c F bs sz (bs + x) _ d2 d3 (by omega) s0 (by omega) (by omega) (by omega)).mono ?_
            rintro e w' ⟨rfl, n1, hw⟩; subst w'
            replace HS := hide (stand_below (unhide HS) (below_drewN (Below.refl _ _) n1))
            replace Hask := hide (asks_below (unhide Hask) (below_drewN (Below.refl _ _) n1) (Nat.le_refl _))
            generalize wr.drewN n1 = w4 at HS Hask ⊢
            go_wp2_with fail
            refine (Position_c F g ls.length cp c nm bs sz x ls _ (unhide Hask)).mono ?_
            rintro e w5 ⟨rfl, hbel5⟩
            replace HS := hide (stand_below (unhide HS) hbel5)
            clear Hask hbel5 d2 d3 hcell hFl hgl
            generalize hcol : x - ls.getD (c - 1) 0 + 1 = col
            have Hcol := hide hcol
            clear hcol
            go_wp2_with fail
            have hP : (w5.alloc (.cells #[.string nm, .int .i64 x, .int .i64 c, .int .i64 col] 39)).heap[w5.heap.size]? = some (.cells #[.string nm, .int .i64 x, .int .i64 c, .int .i64 col] 39 (0, 0)) := blk_new rfl
            replace HS := hide (stand_below (unhide HS) ((Below.refl _ _).alloc (Nat.le_refl _) (.cells #[.string nm, .int .i64 x, .int .i64 c, .int .i64 col] 39)))
            generalize w5.alloc (.cells #[.string nm, .int .i64 x, .int .i64 c, .int .i64 col] 39) = w6 at hP HS ⊢
            generalize w5.heap.size = P at hP ⊢
            have HP := hide hP
            clear hP e1
            obtain ⟨cp, d1, d2, d3, d4, dl⟩ := facts (unhide HS).1
            have Hdl := hide dl
            have c1 := (unhide Hcut).1
            have c2 := (unhide Hcut).2.1
            clear d1 d3 dl
            generalize hn : ls.length = n at d4 Hdl hll c2
            have Hn := hide hn
            clear hn
            go_loop [18, 19] (fun l i => ∃ t m : Nat, t ≤ n ∧ i = .int .i64 t ∧ l = .int .i64 m ∧ Hid ((t ≤ c ∧ m = t) ∨ (c ≤ t ∧ m = c))) (fun _ i => n - (intOf i).toNat)
            case atStart => exact ⟨0, 0, Nat.zero_le _, rfl, rfl, .inl ⟨Nat.zero_le _, rfl⟩⟩
            case round =>
              obtain ⟨t, m, ht, rfl, rfl, Hm⟩ := hrel
              by_cases htn : t < n
              · have hv := (unhide Hdl) t htn
                by_cases htc : t < c
                · have hvx := (unhide Hcut).2.2.1 t htc
                  have hmt : t = m := by have := unhide Hm; omega
                  subst hmt
                  generalize ls.getD t 0 = v at hv hvx
                  go_wp2_with fail
                  go_round
                  case rel => exact ⟨t + 1, t + 1, by omega, by go_num, by go_num, .inl ⟨by omega, rfl⟩⟩
                  case measure => simp [intOf]; omega
                · have hvx := (unhide Hcut).2.2.2 t (by omega) (by rw [unhide Hn]; exact htn)
                  have hmt : c = m := by have := unhide Hm; omega
                  subst hmt
                  generalize ls.getD t 0 = v at hv hvx
                  go_wp2_with fail
                  go_round
                  case rel => exact ⟨t + 1, c, by omega, by go_num, rfl, .inr ⟨by omega, rfl⟩⟩
                  case measure => simp [intOf]; omega
              · have hmt : c = m := by have := unhide Hm; omega
                subst hmt
                clear Hm
                have j0 := (blk_cell (unhide HP) 0).trans rfl
                have j1 := (blk_cell (unhide HP) 1).trans rfl
                have j2 := (blk_cell (unhide HP) 2).trans rfl
                have j3 := (blk_cell (unhide HP) 3).trans rfl
                go_wp2_with fail
                refine (isValid_c nm x c col _ (by omega)).mono ?_
                rintro e w7 ⟨rfl, hbel7⟩
                replace HS := hide (stand_below (unhide HS) hbel7)
                replace HP := hide ((hbel7.block P (lt_of_blk (unhide HP))).trans (unhide HP))
                clear j0 j1 j2 j3 d2 d4 Hdl hbel7
                obtain ⟨cp7, d1, d2, d3, d4, dl⟩ := facts (unhide HS).1
                rw [unhide Hn] at d4 dl
                have Hdl := hide dl
                have j3 := (blk_cell (unhide HP) 3).trans rfl
                have hv := dl (c - 1) (by omega)
                have hvx := (unhide Hcut).2.2.1 (c - 1) (by omega)
                have hv0 := (good_bd (unhide Ht) s0 (c - 1) (by rw [unhide Hn]; omega)).1
                clear d1 d3 dl
                have hcol := unhide Hcol
                clear Hcol
                generalize ls.getD (c - 1) 0 = v at hv hvx hv0 hcol
                have e2 : bs + x - (bs + v) = x - v := by omega
                have Hcol := hide hcol
                clear hcol
                have Hj3 := hide j3
                clear j3
                go_wp2_with fail
                refine (lineStart_c F g n cp7 bs v _ _ d2 d4 (by omega) (by omega) (by omega) (by rw [Int.toNat_natCast]; exact hv) (by omega) hv0 (by omega)).mono ?_
                rintro e w' ⟨rfl, n2, hw⟩; subst w'
                have j3 : (w7.drewN n2).cell? ⟨P, 3, none⟩ = some (.int .i64 (x - v + 1)) := by rw [unhide Hcol]; exact unhide Hj3
                replace d2 : (w7.drewN n2).cell? ⟨F, 2, none⟩ = some (.int .i64 bs) := d2
                replace d4 : (w7.drewN n2).cell? ⟨F, 4, none⟩ = some (.slice (some ⟨g, 0, none⟩) n cp7) := d4
                replace Hdl : Hid (∀ i, i < n → (w7.drewN n2).cell? ⟨g, i, none⟩ = some (.int .i64 (ls.getD i 0))) := Hdl
                replace HS := hide (stand_below (unhide HS) (below_drewN (Below.refl _ _) n2))
                clear hv HP Hcol Hj3
                generalize w7.drewN n2 = w8 at j3 d2 d4 Hdl HS ⊢
                by_cases hcn : c < n
                · have hv2 := (unhide Hdl) c hcn
                  have hvx2 := (unhide Hcut).2.2.2 c (Nat.le_refl _) (by rw [unhide Hn]; exact hcn)
                  have hvs2 := (good_bd (unhide Ht) s0 c (by rw [unhide Hn]; exact hcn)).2
                  generalize ls.getD c 0 = v2 at hv2 hvx2 hvs2
                  go_wp2_with fail
                  refine (lineCount_c F _ _ cp7 _ d4).mono ?_
                  rintro e w' ⟨rfl, hw⟩; subst w'
                  go_wp2_with fail
                  refine (lineStart_c F g n cp7 bs v2 _ _ d2 d4 (by omega) (by omega) (by omega) (by rw [show ((c : Int) + 1).toNat - 1 = c by omega]; exact hv2) (by omega) (by omega) (by omega)).mono ?_
                  rintro e w' ⟨rfl, n3, hw⟩; subst w'
                  go_wp2_with fail
                  go_roundw
                  case rel => exact ⟨k + 1, by omega, by go_num, stand_below (unhide HS) (below_drewN (Below.refl _ _) n3)⟩
                  case measure => simp [intOf]; omega
                · go_wp2_with fail
                  refine (lineCount_c F _ _ cp7 _ d4).mono ?_
                  rintro e w' ⟨rfl, hw⟩; subst w'
                  go_wp2_with fail
                  go_roundw
                  case rel => exact ⟨k + 1, by omega, by go_num, unhide HS⟩
                  case measure => simp [intOf]; omega
        · go_wp2_with fail
          go_ret
          exact ⟨rfl, (unhide HS).2.2⟩

set_option maxRecDepth 100000 in
set_option maxHeartbeats 2000000 in
theorem walk_out1 (nm : ByteArray) (bs sz : Int) (a : Option Addr) (len cap : Nat) (a' : Option Addr) (len' cap' : Nat) (w : World) (h : 65536 < nm.size ∨ nm.size ≤ 65536 ∧ 4096 < len ∨ nm.size ≤ 65536 ∧ len ≤ 4096 ∧ 4096 < len') :
    Calls Ebig.prog 5 #[.string nm, .int .i64 bs, .int .i64 sz, .slice a len cap, .slice a' len' cap'] w fun e w' => e = .returned (.bool true) ∧ Below w.heap.size w w' := by
  rcases h with h | ⟨h1, h⟩ | ⟨h1, h2, h⟩
  all_goals
    go_enter Ebig.func5, Ebig.ntmps5
    go_wp2_with fail
    refine (bytes5_any nm bs sz a a' len cap len' cap' _).mono ?_
    rintro e w' ⟨b, rfl, hw⟩; subst w'
    cases b
    all_goals
      go_wp2_with fail
      all_goals
        go_ret
        exact ⟨rfl, Below.refl _ _⟩

set_option maxRecDepth 100000 in
set_option maxHeartbeats 2000000 in
theorem walk_out2 (nm : ByteArray) (bs sz : Int) (a : Option Addr) (len cap : Nat) (a' : Option Addr) (len' cap' : Nat) (w : World) (h1 : nm.size ≤ 65536) (h2 : len ≤ 4096) (h3 : len' ≤ 4096) (h : bs < 1 ∨ sz < 0 ∨ 9223372036854775805 < sz) :
    Calls Ebig.prog 5 #[.string nm, .int .i64 bs, .int .i64 sz, .slice a len cap, .slice a' len' cap'] w fun e w' => e = .returned (.bool true) ∧ Below w.heap.size w w' := by
  rcases h with h | h | h
  all_goals
    go_enter Ebig.func5, Ebig.ntmps5
    go_wp2_with fail
    refine (bytes5_any nm bs sz a a' len cap len' cap' _).mono ?_
    rintro e w' ⟨b, rfl, hw⟩; subst w'
    cases b
    all_goals
      go_wp2_with fail
      all_goals
        go_ret
        exact ⟨rfl, Below.refl _ _⟩

set_option maxRecDepth 100000 in
set_option maxHeartbeats 2000000 in
theorem walk_far (nm : ByteArray) (bs sz : Int) (a : Option Addr) (len cap : Nat) (a' : Option Addr) (len' cap' : Nat) (w : World) (h1 : nm.size ≤ 65536) (h2 : len ≤ 4096) (h3 : len' ≤ 4096) (b0 : 1 ≤ bs) (s0 : 0 ≤ sz) (s1 : sz ≤ 9223372036854775805) (h : 9223372036854775806 - sz < bs) :
    Calls Ebig.prog 5 #[.string nm, .int .i64 bs, .int .i64 sz, .slice a len cap, .slice a' len' cap'] w fun e w' => e = .returned (.bool true) ∧ Below w.heap.size w w' := by
  all_goals
    go_enter Ebig.func5, Ebig.ntmps5
    go_wp2_with fail
    refine (bytes5_any nm bs sz a a' len cap len' cap' _).mono ?_
    rintro e w' ⟨b, rfl, hw⟩; subst w'
    cases b
    all_goals
      go_wp2_with fail
      all_goals
        go_ret
        exact ⟨rfl, Below.refl _ _⟩

theorem walk (nm : ByteArray) (bs sz : Int) (a : Option Addr) (len cap : Nat) (zs : List Int) (a' : Option Addr) (len' cap' : Nat) (ps : List Int) (w : World) (hr : IsRow .i64 w a len cap zs) (hr' : IsRow .i64 w a' len' cap' ps) :
    Calls Ebig.prog 5 #[.string nm, .int .i64 bs, .int .i64 sz, .slice a len cap, .slice a' len' cap'] w fun e w' => e = .returned (.bool true) ∧ Below w.heap.size w w' := by
  by_cases c1 : 65536 < nm.size ∨ nm.size ≤ 65536 ∧ 4096 < len ∨ nm.size ≤ 65536 ∧ len ≤ 4096 ∧ 4096 < len'
  · exact walk_out1 nm bs sz a len cap a' len' cap' w c1
  · by_cases c2 : bs < 1 ∨ sz < 0 ∨ 9223372036854775805 < sz
    · exact walk_out2 nm bs sz a len cap a' len' cap' w (by omega) (by omega) (by omega) c2
    · by_cases c3 : 9223372036854775806 - sz < bs
      · exact walk_far nm bs sz a len cap a' len' cap' w (by omega) (by omega) (by omega) (by omega) (by omega) (by omega) c3
      · exact walk_main nm bs sz a len cap zs a' len' cap' ps w hr hr' (by omega) (by omega) (by omega) (by omega) (by omega) (by omega) (by omega)

end Go.Proofs.Yoebiw.fnPositionAgreesWithLineStart
