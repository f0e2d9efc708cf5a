/-
  The shared memory words of this seat: a source file in memory ('FileAt'), its set ('SetAt'); contracts of the small readers.
-/
import Derived.Test.YoebiwRows
import Derived.WalkKit
import Derived.ProofKit
import Derived.ShutString
import Derived.ChangeOld
import Derived.Below
import Derived.WalkSmall
import Derived.Deep.QuietTactic
import Derived.BigQuiet
import Derived.Deep.AppendLies
namespace Go.Proofs.Yoebiw.Src
open Go.ChangeShapes Go.WideShapes Go.ChangeAt Go.RowKit

theorem info3 : (Ebig.prog.info? 3).map (fun i => (i.zero, i.size, i.bytes)) = some (some (.int .i64 0), 1, 8) := by kernel_rfl
theorem info27 : (Ebig.prog.info? 27).map (fun i => (i.zero, i.size, i.bytes)) = some (some (.pointer none), 1, 8) := by kernel_rfl

/-- A source file in memory: the struct is block f, its line table is the head of block g. -/
def FileAt (w : World) (f g : Nat) (nm : ByteArray) (bs sz : Int) (ls : List Int) : Prop :=
  g ≠ f ∧ ∃ p cap cur, w.heap[f]? = some (.cells #[p, .string nm, .int .i64 bs, .int .i64 sz, .slice (some ⟨g, 0, none⟩) ls.length cap] 32 (0, 0)) ∧
    w.heap[g]? = some (.cells cur 3 (0, 0)) ∧ ls.length ≤ cap ∧ cap ≤ maxLen ∧ cur.size = cap ∧ cur.toList.take ls.length = ls.map (Value.int .i64)

theorem blk_cell {w : World} {b : Nat} {cs : Array Value} {T : TypeId} (h : w.heap[b]? = some (.cells cs T (0, 0))) (i : Nat) : w.cell? ⟨b, i, none⟩ = cs[i]? :=
  cell_of_row w b i cs T (0, 0) h

theorem wf_i64 {n : Int} (h : (Lit.int .i64 n).wf = true) : -9223372036854775808 ≤ n ∧ n ≤ 9223372036854775807 := by
  have e1 : IntKind.i64.min = -9223372036854775808 := by decide
  have e2 : IntKind.i64.max = 9223372036854775807 := by decide
  simp [Lit.wf] at h
  omega

end Go.Proofs.Yoebiw.Src
