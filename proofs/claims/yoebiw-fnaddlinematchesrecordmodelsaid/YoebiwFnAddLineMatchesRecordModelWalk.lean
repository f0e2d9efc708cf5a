/-
  The walk of FnAddLineMatchesRecordModel.
-/
import Derived.Test.YoebiwRecord
namespace Go.Proofs.Yoebiw.fnAddLineMatchesRecordModel
open Go.ChangeShapes Go.WideShapes Go.ChangeAt Go.RowKit
open Go.Proofs.Yoebiw.Src

/-- At the head of each round of the script: the file bears the table of the first k offsets. -/
def Rel1 (sz : Int) (zs : List Int) (len B F : Nat) (nm : ByteArray) (w1 : World) (i : Value) (wr : World) : Prop :=
  ∃ (k g : Nat), k ≤ len ∧ i = .int .i64 k ∧ FileAt wr F g nm 1 sz (linesTo sz zs k) ∧ B ≤ g ∧ Below B w1 wr

/-- What stands all through the second and the last loop: the file, the copy of the offsets, the old memory. -/
def Stands (sz : Int) (zs : List Int) (len B F g c : Nat) (nm : ByteArray) (a1 : Option Addr) (w wy : World) : Prop :=
  FileAt wy F g nm 1 sz (linesTo sz zs len) ∧ Mine wy a1 c len zs ∧ Below w.heap.size w wy ∧ B ≤ wy.heap.size ∧ F < B ∧ g < B ∧ (0 < len → c < B) ∧ w.heap.size ≤ B

/-- The slice 'want' behind k rounds of the model. -/
def Want (sz : Int) (zs : List Int) (B k : Nat) (v : Value) (wy : World) : Prop :=
  ∃ gW cW, v = .slice (some ⟨gW, 0, none⟩) (linesTo sz zs k).length cW ∧ wy.ownsRow B 3 1 v (linesTo sz zs k).length ((linesTo sz zs k).map (Value.int .i64))

theorem want_same {sz : Int} {zs : List Int} {B k : Nat} {v : Value} {wy : World} (h : Want sz zs B k v wy) (e : linesTo sz zs (k + 1) = linesTo sz zs k) : Want sz zs B (k + 1) v wy := by
  unfold Want at *; rw [e]; exact h

theorem want_grown {sz z : Int} {zs : List Int} {B k g' cap' : Nat} {w5 : World} (hown : w5.ownsRow B 3 1 (.slice (some ⟨g', 0, none⟩) ((linesTo sz zs k).length + 1) cap') ((linesTo sz zs k).length + 1) ((linesTo sz zs k).map (Value.int .i64) ++ [.int .i64 z]))
    (e : linesTo sz zs (k + 1) = linesTo sz zs k ++ [z]) : Want sz zs B (k + 1) (.slice (some ⟨g', 0, none⟩) ((linesTo sz zs k).length + 1) cap') w5 := by
  refine ⟨g', cap', ?_, ?_⟩
  · rw [e]; simp
  · rw [e]; simpa using hown

theorem stands_start {sz : Int} {zs : List Int} {len F g c : Nat} {nm : ByteArray} {a1 : Option Addr} {w w1 wr : World} (o : Obj) (hf : FileAt wr F g nm 1 sz (linesTo sz zs len)) (hm : Mine w1 a1 c len zs) (hb1 : Below w.heap.size w w1)
    (hb : Below w1.heap.size w1 wr) : Stands sz zs len wr.heap.size F g c nm a1 w (wr.alloc o) := by
  obtain ⟨h1, h2⟩ := file_lt hf
  have hs1 := hb1.size
  have hs2 := hb.size
  have hm2 := mine_below hm hb (Nat.le_refl _)
  refine ⟨keep hf (blk_old h1) (blk_old h2), mine_below (B := wr.heap.size) hm2 ((Below.refl _ _).alloc (Nat.le_refl _) _) (Nat.le_refl _), (hb1.trans (hb.mono hs1)).alloc (by omega) _, by simp, h1, h2, ?_, by omega⟩
  intro h0
  rcases hm2 with ⟨h, _⟩ | ⟨_, h, _⟩
  · omega
  · exact h

theorem want_start {sz : Int} {zs : List Int} {len : Nat} {wr : World} {C : Array Value} (hs : C.size = len + 1) (h1 : C.toList.take 1 = [.int .i64 0]) (hl : len ≤ 4096) :
    Want sz zs wr.heap.size 0 (.slice (some ⟨wr.heap.size, 0, none⟩) 1 (len + 1)) (wr.alloc (.cells C 3)) :=
  ⟨wr.heap.size, len + 1, rfl, by simp [linesTo], .inr ⟨wr.heap.size, len + 1, C, rfl, Nat.le_refl _, blk_new rfl, by simp [linesTo], by simp only [maxLen]; omega, by omega, by simpa [linesTo] using h1⟩⟩

theorem mine_keep {w w' : World} {a : Option Addr} {c n : Nat} {zs : List Int} (h : Mine w a c n zs) (hs : w.heap.size ≤ w'.heap.size) (hb : 0 < n → w'.heap[c]? = w.heap[c]?) : Mine w' a c n zs := by
  rcases h with h | ⟨h1, h2, h3⟩
  · exact .inl h
  · exact .inr ⟨h1, by omega, fun j hj => (World.cell?_of_block (hb (by omega))).trans (h3 j hj)⟩

/-- Behind the append of the model. -/
theorem stands_grown {sz : Int} {zs : List Int} {len B F g c gW : Nat} {nm : ByteArray} {a1 : Option Addr} {w wy w5 : World} {o : Obj} (h : Stands sz zs len B F g c nm a1 w wy) (hg : (wy.alloc o).grownBy w5 (some gW)) (hB : B ≤ gW) :
    Stands sz zs len B F g c nm a1 w w5 := by
  obtain ⟨h1, h2, h3, h4, h5, h6, h7, h8⟩ := h
  have same : ∀ k, k < B → w5.heap[k]? = wy.heap[k]? := fun k hk => (hg.block k (by simp; omega) (by simp; omega)).trans (blk_old (by omega))
  have hs := hg.size
  simp at hs
  refine ⟨keep h1 (same F h5) (same g h6), mine_keep h2 (by omega) (fun h0 => same c (h7 h0)), ?_, by omega, h5, h6, h7, h8⟩
  exact (h3.alloc (by have := h3.size; omega) o).grown hg (by simp; have := h3.size; omega) (fun k hk => by simp at hk; omega)

set_option maxRecDepth 100000 in
set_option maxHeartbeats 2000000 in
theorem walk_main (sz : Int) (a : Option Addr) (len cap : Nat) (zs : List Int) (w : World) (hr : IsRow .i64 w a len cap zs) (hlen : len ≤ 4096)
    (s0 : 0 ≤ sz) (s1 : sz ≤ 9223372036854775805) :
    Calls Ebig.prog 3 #[.int .i64 sz, .slice a len cap] w fun e w' => e = .returned (.bool true) ∧ Below w.heap.size w w' := by
  have Hr := hide hr
  clear hr
  obtain ⟨C, hCs, hC1, hmk⟩ := make_one len (by omega)
  have HCs := hide hCs
  have HC1 := hide hC1
  have Hmk := hide hmk
  clear hCs hC1 hmk
  go_enter Ebig.func3, Ebig.ntmps3
  go_wp2_with fail
  refine (bytes3_yes sz a len cap _ (by omega)).mono ?_
  rintro e w' ⟨rfl, hw⟩; subst w'
  go_wp2_with fail
  refine (clone_c a len cap zs _ (unhide Hr) (by omega)).mono ?_
  rintro e w1 ⟨a1, rfl, hbel1, hmine⟩
  have Hb1 := hide hbel1
  have Hm := hide hmine
  clear hbel1 hmine Hr
  go_wp2_with fail
  refine (newFileSet_c _).mono ?_
  rintro e w' ⟨rfl, hw⟩; subst w'
  go_wp2_with fail
  refine (addFile_low w1.heap.size (w1.heap.size + 1) 1 none 0 0 (.pointer none) [] _ (-1) sz _ (blk_new rfl) (World.ownsRow_nil _ _ _ _) (by simp) (by simp [Value.ownBlock]) (by omega) (by omega) s0 (by omega) (by omega)).mono ?_
  rintro e w2 ⟨rfl, hp⟩
  obtain ⟨hfile, hbel2⟩ := add_one hp
  have Hf := hide hfile
  have Hb2 := hide hbel2
  clear hp hfile hbel2
  rw [show w1.heap.size + 2 = w1.heap.size + 1 + 1 from rfl] at Hf
  go_wp2_with fail
  obtain ⟨F, hF⟩ : ∃ F, w1.heap.size + 1 + 1 = F := ⟨_, rfl⟩
  have hBF : w1.heap.size ≤ F := by omega
  rw [hF] at Hf ⊢
  clear hF
  go_loopw [7] (fun i wr => Rel1 sz zs len w1.heap.size F _ w1 i wr) (fun i _ => len - (intOf i).toNat)
  case atStart => exact ⟨0, _, Nat.zero_le _, rfl, unhide Hf, by omega, unhide Hb2⟩
  case round =>
    clear Hf Hb2
    obtain ⟨k, g, hk, rfl, hfile, hBg, hbel⟩ := hrel
    have Hfile := hide hfile
    have Hbel := hide hbel
    clear hfile hbel
    by_cases hlt : k < len
    · obtain ⟨ha1, hcell⟩ := mine_at (mine_below (unhide Hm) (unhide Hbel) (Nat.le_refl _)) hlt
      subst ha1
      generalize hz : zs.getD k 0 = z at hcell
      have Hz := hide hz
      clear hz Hmk HCs HC1
      go_wp2_with fail
      refine (addLine_c F g w1.heap.size _ 1 sz z _ _ (unhide Hfile) (linesTo_good sz zs k).1 (by have := linesTo_len sz zs k; omega) hBF hBg).mono ?_
      rintro e w4 ⟨rfl, g4, hBg4, hfile4, hbel4⟩
      rw [← unhide Hz] at hfile4
      have Hf4 := hide hfile4
      have Hbel4 := hide ((unhide Hbel).trans hbel4)
      clear hfile4 hbel4 Hfile Hbel hcell
      go_wp2_with fail
      go_roundw
      case rel => exact ⟨k + 1, g4, by omega, by go_num, unhide Hf4, hBg4, unhide Hbel4⟩
      case measure => simp [intOf]; omega
    · have hke : len = k := by omega
      subst hke
      have hmk := unhide Hmk
      have HS := fun o => hide (stands_start o (unhide Hfile) (unhide Hm) (unhide Hb1) (unhide Hbel))
      have HW := hide (want_start (sz := sz) (zs := zs) (wr := wr) (unhide HCs) (unhide HC1) hlen)
      have hsz0 : w.heap.size ≤ wr.heap.size := by have h1 := (unhide Hb1).size; have h2 := (unhide Hbel).size; omega
      obtain ⟨i0, hi, hz0, hz1, hz2⟩ := info_parts info3
      clear Hmk HCs HC1 Hfile Hm Hbel Hb1 hlt hk hBg
      go_wp2_with fail
      replace HS := HS (.cells C 3)
      clear hmk
      generalize hB : wr.heap.size = B at HS HW hsz0 ⊢
      clear hB
      go_loopw [8, 9] (fun v i wy => ∃ k : Nat, k ≤ len ∧ i = .int .i64 k ∧ Want sz zs B k v wy ∧ Stands sz zs len B F g w.heap.size _ a1 w wy) (fun _ i _ => len - (intOf i).toNat)
      case atStart => exact ⟨0, Nat.zero_le _, rfl, unhide HW, unhide HS⟩
      case round =>
        clear HS HW
        obtain ⟨k, hk, rfl, hwant, hstands⟩ := hrel
        have HS := hide hstands
        have HW := hide hwant
        obtain ⟨gW, cW, rfl, hown⟩ := hwant
        have Hown := hide hown
        have hnn := linesTo_len sz zs k
        clear hown hstands
        by_cases hlt : k < len
        · obtain ⟨ha1, hcell⟩ := mine_at (unhide HS).2.1 hlt
          subst ha1
          generalize hz : zs.getD k 0 = z at hcell
          have Hz := hide hz
          clear hz
          by_cases hout : z ≤ 0 ∨ sz ≤ z
          · have hno : linesTo sz zs (k + 1) = linesTo sz zs k := record_no (by rw [unhide Hz]; omega)
            have Hno := hide hno
            clear hno
            rcases hout with ho | ho
            all_goals
              go_wp2_with fail
              all_goals
                go_roundw
                case rel => exact ⟨k + 1, by omega, by go_num, want_same (unhide HW) (unhide Hno), unhide HS⟩
                case measure => simp [intOf]; omega
          · have hz1' : 0 < z := by omega
            have hz2' : z < sz := by omega
            clear hout
            go_wp2_with fail
            go_loop [11, 12] (fun r i => ∃ j : Nat, j ≤ k ∧ i = .int .i64 j ∧ r = .bool true ∧ Hid (∀ i, i < j → ¬ (zs.getD i 0 < sz ∧ z ≤ zs.getD i 0))) (fun _ i => k - (intOf i).toNat)
            case atStart => exact ⟨0, Nat.zero_le _, rfl, rfl, fun i hi => by omega⟩
            case round =>
              obtain ⟨j, hj, rfl, rfl, Hrec⟩ := hrel
              by_cases hjlt : j < k
              · have hx := (mine_at (unhide HS).2.1 (show j < len by omega)).2
                generalize hxz : zs.getD j 0 = x at hx
                have Hx := hide hxz
                clear hxz
                by_cases hb : x < sz ∧ z ≤ x
                · obtain ⟨hb1, hb2⟩ := hb
                  have Hno : Hid (linesTo sz zs (k + 1) = linesTo sz zs k) := record_no (.inr (.inr ⟨j, hjlt, by rw [unhide Hx]; exact hb1, by rw [unhide Hx, unhide Hz]; exact hb2⟩))
                  go_wp2_with fail
                  go_roundw
                  case rel => exact ⟨k + 1, by omega, by go_num, want_same (unhide HW) (unhide Hno), unhide HS⟩
                  case measure => simp [intOf]; omega
                · have Hrec2 : Hid (∀ i, i < j + 1 → ¬ (zs.getD i 0 < sz ∧ z ≤ zs.getD i 0)) := by
                    intro i hi
                    by_cases e : i = j
                    · subst e; rw [unhide Hx]; exact hb
                    · exact (unhide Hrec) i (by omega)
                  clear Hrec
                  by_cases hxs : x < sz
                  · have hxz : x < z := by omega
                    clear hb
                    go_wp2_with fail
                    go_round
                    case rel => exact ⟨j + 1, by omega, by go_num, rfl, Hrec2⟩
                    case measure => simp [intOf]; omega
                  · clear hb
                    go_wp2_with fail
                    go_round
                    case rel => exact ⟨j + 1, by omega, by go_num, rfl, Hrec2⟩
                    case measure => simp [intOf]; omega
              · have hje : k = j := by omega
                subst hje
                have Hyes : Hid (linesTo sz zs (k + 1) = linesTo sz zs k ++ [z]) := by
                  have h := record_yes (sz := sz) (zs := zs) (k := k) (by rw [unhide Hz]; exact hz1') (by rw [unhide Hz]; exact hz2') (by rw [unhide Hz]; exact unhide Hrec)
                  rw [unhide Hz] at h
                  exact h
                have hBW : B ≤ gW := ((unhide Hown).lt gW rfl).1
                have hBs : B ≤ wr.heap.size := (unhide HS).2.2.2.1
                generalize hn : (linesTo sz zs k).length = n at hnn Hown ⊢
                have Hn := hide hn
                clear hn
                go_wp2_with (at_builtin; refine wpList_append_lies _ rfl (.tmp 86) (.tmp 88) 22 rfl B 3 i0 (.int .i64 0) 1 8 Ebig.underlying22 hi hz0 hz1 hz2 rfl (by decide) (.slice (some ⟨gW, 0, none⟩) n cW) n ((linesTo sz zs k).map (Value.int .i64)) rfl ?own ⟨wr.heap.size, 0, none⟩ 1 1 [.int .i64 z] rfl rfl ?c1 ?c2 (by decide) ?c3 ?c4 ?c5 (wr.heap.size + 1) ?c6 ?_)
                case own => exact (unhide Hown).alloc _
                case c2 => rfl
                case c3 => unfold maxLen; omega
                case c4 => omega
                case c5 => omega
                · intro g' cap' w5 hown5 hgrow5 hat5 hlt5
                  have HS5 := hide (stands_grown (unhide HS) hgrow5 hBW)
                  have HW5 : Hid (Want sz zs B (k + 1) (.slice (some ⟨g', 0, none⟩) (n + 1) cap') w5) := by
                    rw [← unhide Hn] at hown5 ⊢
                    exact want_grown hown5 (unhide Hyes)
                  clear hown5 hgrow5 hat5 hlt5 HS HW Hown hcell
                  go_wp2_with fail
                  go_roundw
                  case rel => exact ⟨k + 1, by omega, by go_num, unhide HW5, unhide HS5⟩
                  case measure => simp [intOf]; omega
        · have hke : len = k := by omega
          subst hke
          obtain ⟨cp, d1, d2, d3, d4, dl⟩ := facts (unhide HS).1
          clear d1 d3
          have Hdl := hide dl
          have Hgood := hide (linesTo_good sz zs len)
          have hl1 := (linesTo_good sz zs len).1
          have Hbel0 := hide (unhide HS).2.2.1
          have hwl : ∀ i, i < (linesTo sz zs len).length → wr.cell? ⟨gW, i, none⟩ = some (.int .i64 ((linesTo sz zs len).getD i 0)) := by
            intro i hi
            have h := (unhide Hown).cells (g := gW) rfl i (.int .i64 ((linesTo sz zs len).getD i 0)) (by simp [List.getD, hi])
            simpa [Addr.add_lit] using h
          have Hwl := hide hwl
          replace hnn : (linesTo sz zs len).length ≤ 4097 := by omega
          clear dl hwl HS HW Hown hk hlt
          generalize hls : linesTo sz zs len = ls at d4 Hdl Hwl Hgood hl1 hnn ⊢
          clear hls
          generalize hn : ls.length = n at d4 Hdl Hwl hl1 hnn ⊢
          have Hn := hide hn
          clear hn
          go_wp2_with fail
          refine (lineCount_c F _ _ cp _ d4).mono ?_
          rintro e w' ⟨rfl, hw⟩; subst w'
          go_wp2_with fail
          go_loopw [13] (fun i wx => ∃ k : Nat, k ≤ n ∧ i = .int .i64 k ∧ wx.cell? ⟨F, 2, none⟩ = some (.int .i64 1) ∧ wx.cell? ⟨F, 4, none⟩ = some (.slice (some ⟨g, 0, none⟩) n cp) ∧
              Hid (∀ i, i < n → wx.cell? ⟨g, i, none⟩ = some (.int .i64 (ls.getD i 0))) ∧ Hid (∀ i, i < n → wx.cell? ⟨gW, i, none⟩ = some (.int .i64 (ls.getD i 0))) ∧ Hid (Below w.heap.size w wx)) (fun i _ => n - (intOf i).toNat)
          case atStart => exact ⟨0, Nat.zero_le _, rfl, d2, d4, Hdl, Hwl, Hbel0⟩
          case round =>
            clear d2 d4 Hdl Hwl Hbel0
            obtain ⟨k, hk, rfl, d2, d4, Hdl, Hwl, Hbel0⟩ := hrel
            by_cases hlt : k < n
            · have hx := (unhide Hdl) k hlt
              have hy := (unhide Hwl) k hlt
              have hbd := good_bd (unhide Hgood) s0 k (by rw [unhide Hn]; omega)
              generalize ls.getD k 0 = x at hx hy hbd
              obtain ⟨x0, x1⟩ := hbd
              have q5 : (k : Int) < (n : Int) := by omega
              have e1 : ((k : Int) + 1).toNat - 1 = k := by omega
              have He := hide e1
              clear e1
              have q4 : IntKind.i64.wrap ((k : Int) + 1) = (k : Int) + 1 := IntWalk.i64_in _ (by omega)
              go_wp2_with fail
              go_quiet (fail)
              replace d2 : (wr.drewN nq).cell? ⟨F, 2, none⟩ = some (.int .i64 1) := d2
              replace d4 : (wr.drewN nq).cell? ⟨F, 4, none⟩ = some (.slice (some ⟨g, 0, none⟩) n cp) := d4
              replace Hdl : Hid (∀ i, i < n → (wr.drewN nq).cell? ⟨g, i, none⟩ = some (.int .i64 (ls.getD i 0))) := Hdl
              replace Hwl : Hid (∀ i, i < n → (wr.drewN nq).cell? ⟨gW, i, none⟩ = some (.int .i64 (ls.getD i 0))) := Hwl
              replace hx : (wr.drewN nq).cell? ⟨g, k, none⟩ = some (.int .i64 x) := hx
              replace hy : (wr.drewN nq).cell? ⟨gW, k, none⟩ = some (.int .i64 x) := hy
              replace Hbel0 := hide (below_drewN (unhide Hbel0) nq)
              generalize wr.drewN nq = wq at d2 d4 Hdl Hwl hx hy Hbel0 ⊢
              go_wp2_with fail
              go_quiet ((go_at_call 13; refine Calls.quiet_of (lineStart_c F g n cp 1 x _ _ (by exact d2) (by exact d4) (by omega) (by omega) (by omega) (by rw [unhide He]; exact hx) (by omega) (by omega) (by omega))))
              go_wp2_with fail
              go_roundw
              case rel => exact ⟨k + 1, by omega, by go_num, d2, d4, Hdl, Hwl, hide (below_drewN (unhide Hbel0) _)⟩
              case measure => simp [intOf]; omega
            · go_wp2_with fail
              go_ret
              exact ⟨rfl, unhide Hbel0⟩

set_option maxRecDepth 100000 in
set_option maxHeartbeats 1000000 in
theorem walk_long (sz : Int) (a : Option Addr) (len cap : Nat) (w : World) (h : 1048576 < len) :
    Calls Ebig.prog 3 #[.int .i64 sz, .slice a len cap] w fun e w' => e = .returned (.bool true) ∧ Below w.heap.size w w' := by
  go_enter Ebig.func3, Ebig.ntmps3
  go_wp2_with fail
  refine (bytes3_no sz a len cap _ h).mono ?_
  rintro e w' ⟨rfl, hw⟩; subst w'
  go_wp2_with fail
  go_ret
  exact ⟨rfl, Below.refl _ _⟩

set_option maxRecDepth 100000 in
set_option maxHeartbeats 1000000 in
theorem walk_out (sz : Int) (a : Option Addr) (len cap : Nat) (w : World) (h0 : len ≤ 1048576) (h : 4096 < len ∨ len ≤ 4096 ∧ (sz < 0 ∨ 9223372036854775805 < sz)) :
    Calls Ebig.prog 3 #[.int .i64 sz, .slice a len cap] w fun e w' => e = .returned (.bool true) ∧ Below w.heap.size w w' := by
  rcases h with h | ⟨h1, h | h⟩
  all_goals
    go_enter Ebig.func3, Ebig.ntmps3
    go_wp2_with fail
    refine (bytes3_yes sz a len cap _ h0).mono ?_
    rintro e w' ⟨rfl, hw⟩; subst w'
    go_wp2_with fail
    all_goals
      go_ret
      exact ⟨rfl, Below.refl _ _⟩

theorem walk (sz : Int) (a : Option Addr) (len cap : Nat) (zs : List Int) (w : World) (hr : IsRow .i64 w a len cap zs) :
    Calls Ebig.prog 3 #[.int .i64 sz, .slice a len cap] w fun e w' => e = .returned (.bool true) ∧ Below w.heap.size w w' := by
  by_cases c1 : 1048576 < len
  · exact walk_long sz a len cap w c1
  · by_cases c2 : 4096 < len ∨ len ≤ 4096 ∧ (sz < 0 ∨ 9223372036854775805 < sz)
    · exact walk_out sz a len cap w (by omega) c2
    · exact walk_main sz a len cap zs w hr (by omega) (by omega) (by omega)

end Go.Proofs.Yoebiw.fnAddLineMatchesRecordModel
