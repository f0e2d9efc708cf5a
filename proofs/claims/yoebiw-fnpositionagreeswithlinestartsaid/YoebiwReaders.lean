/-
  Contracts of the small readers of a source file: LineCount, LineStart, FileSetPos, Offset; and NewFileSet.
-/
import Derived.Test.YoebiwBase
namespace Go.Proofs.Yoebiw.Src
open Go.ChangeShapes Go.WideShapes Go.ChangeAt Go.RowKit

set_option maxHeartbeats 400000 in
theorem lineCount_c (f : Nat) (a : Option Addr) (n cap : Nat) (w : World) (h4 : w.cell? ⟨f, 4, none⟩ = some (.slice a n cap)) :
    Calls Ebig.prog 12 #[.pointer (some ⟨f, 0, none⟩)] w fun e w' => e = .returned (.int .i64 n) ∧ w' = w := by
  go_enter Ebig.func12, Ebig.ntmps12
  go_wp2
  go_ret
  exact ⟨rfl, rfl⟩

set_option maxHeartbeats 400000 in
theorem fileSetPos_c (f : Nat) (bs sz o : Int) (w : World) (h2 : w.cell? ⟨f, 2, none⟩ = some (.int .i64 bs)) (h3 : w.cell? ⟨f, 3, none⟩ = some (.int .i64 sz)) (ho : o ≤ sz) :
    Calls Ebig.prog 16 #[.pointer (some ⟨f, 0, none⟩), .int .i64 o] w fun e w' => e = .returned (.int .i64 (wrap64 (bs + o))) ∧ w' = w := by
  go_enter Ebig.func16, Ebig.ntmps16
  go_wp2
  go_ret
  exact ⟨rfl, rfl⟩

set_option maxHeartbeats 400000 in
theorem newFileSet_c (w : World) :
    Calls Ebig.prog 9 #[] w fun e w' => e = .returned (.pointer (some ⟨w.heap.size, 0, none⟩)) ∧ w' = w.alloc (.cells #[.int .i64 1, .slice none 0 0, .pointer none] 45) := by
  go_enter Ebig.func9, Ebig.ntmps9
  go_wp2
  go_ret
  exact ⟨rfl, rfl⟩

set_option maxHeartbeats 400000 in
theorem offset_c (f : Nat) (bs sz p : Int) (w : World) (h2 : w.cell? ⟨f, 2, none⟩ = some (.int .i64 bs)) (h3 : w.cell? ⟨f, 3, none⟩ = some (.int .i64 sz))
    (hb : 0 ≤ bs) (hs : 0 ≤ sz) (hm : bs + sz ≤ 9223372036854775807) (hp : bs ≤ p) (hq : p ≤ bs + sz) :
    Calls Ebig.prog 17 #[.pointer (some ⟨f, 0, none⟩), .int .i64 p] w fun e w' => e = .returned (.int .i64 (p - bs)) ∧ ∃ n, w' = w.drewN n := by
  have hd : decide (p < bs) = false := by simp; omega
  go_enter Ebig.func17, Ebig.ntmps17
  go_wp2
  go_quiet (fail)
  go_wp2
  go_ret
  exact ⟨rfl, _, rfl⟩

set_option maxHeartbeats 400000 in
theorem lineStart_c (f g n cap : Nat) (bs v : Int) (k : Int) (w : World) (h2 : w.cell? ⟨f, 2, none⟩ = some (.int .i64 bs)) (h4 : w.cell? ⟨f, 4, none⟩ = some (.slice (some ⟨g, 0, none⟩) n cap))
    (h1 : 1 ≤ k) (hk : k ≤ n) (hn : (n : Int) ≤ 9223372036854775807) (hv : w.cell? ⟨g, k.toNat - 1, none⟩ = some (.int .i64 v)) (hb : 0 ≤ bs) (hv0 : 0 ≤ v) (hm : bs + v ≤ 9223372036854775807) :
    Calls Ebig.prog 13 #[.pointer (some ⟨f, 0, none⟩), .int .i64 k] w fun e w' => e = .returned (.int .i64 (bs + v)) ∧ ∃ n, w' = w.drewN n := by
  have hw : IntKind.i64.wrap (k - 1) = k - 1 := IntWalk.i64_in _ (by omega)
  have i0 : 0 ≤ k - 1 := by omega
  have i1 : k - 1 < n := by omega
  go_enter Ebig.func13, Ebig.ntmps13
  go_wp2
  go_quiet (fail)
  go_wp2
  go_ret
  exact ⟨rfl, _, rfl⟩

end Go.Proofs.Yoebiw.Src
