/-
  The contracts of the three bounds on total length.
-/
import Derived.Test.YoebiwClone
namespace Go.Proofs.Yoebiw.Src
open Go.ChangeShapes Go.WideShapes Go.ChangeAt Go.RowKit

set_option maxHeartbeats 400000 in
theorem bytes3_yes (sz : Int) (a : Option Addr) (len cap : Nat) (w : World) (h : len ≤ 1048576) :
    Calls Ebig.prog 7 #[.int .i64 sz, .slice a len cap] w fun e w' => e = .returned (.bool true) ∧ w' = w := by
  go_enter Ebig.func7, Ebig.ntmps7
  go_wp2
  go_ret
  exact ⟨rfl, rfl⟩

set_option maxHeartbeats 400000 in
theorem bytes3_no (sz : Int) (a : Option Addr) (len cap : Nat) (w : World) (h : 1048576 < len) :
    Calls Ebig.prog 7 #[.int .i64 sz, .slice a len cap] w fun e w' => e = .returned (.bool false) ∧ w' = w := by
  go_enter Ebig.func7, Ebig.ntmps7
  go_wp2
  go_ret
  exact ⟨rfl, rfl⟩

set_option maxHeartbeats 400000 in
theorem bytes4_yes (bs sz : Int) (a : Option Addr) (len cap : Nat) (w : World) (h : len ≤ 1048576) :
    Calls Ebig.prog 14 #[.int .i64 bs, .int .i64 sz, .slice a len cap] w fun e w' => e = .returned (.bool true) ∧ w' = w := by
  go_enter Ebig.func14, Ebig.ntmps14
  go_wp2
  go_ret
  exact ⟨rfl, rfl⟩

set_option maxHeartbeats 400000 in
theorem bytes4_no (bs sz : Int) (a : Option Addr) (len cap : Nat) (w : World) (h : 1048576 < len) :
    Calls Ebig.prog 14 #[.int .i64 bs, .int .i64 sz, .slice a len cap] w fun e w' => e = .returned (.bool false) ∧ w' = w := by
  go_enter Ebig.func14, Ebig.ntmps14
  go_wp2
  go_ret
  exact ⟨rfl, rfl⟩

set_option maxHeartbeats 1000000 in
theorem bytes5_any (nm : ByteArray) (bs sz : Int) (a a' : Option Addr) (len cap len' cap' : Nat) (w : World) :
    Calls Ebig.prog 15 #[.string nm, .int .i64 bs, .int .i64 sz, .slice a len cap, .slice a' len' cap'] w fun e w' => ∃ b : Bool, e = .returned (.bool b) ∧ w' = w := by
  by_cases h1 : 1048576 < nm.size
  · go_enter Ebig.func15, Ebig.ntmps15
    go_wp2
    go_ret
    exact ⟨_, rfl, rfl⟩
  by_cases h2 : 1048576 < len
  · go_enter Ebig.func15, Ebig.ntmps15
    go_wp2
    go_ret
    exact ⟨_, rfl, rfl⟩
  by_cases h3 : 1048576 < nm.size + len
  · go_enter Ebig.func15, Ebig.ntmps15
    go_wp2
    go_ret
    exact ⟨_, rfl, rfl⟩
  by_cases h4 : 1048576 < len'
  · go_enter Ebig.func15, Ebig.ntmps15
    go_wp2
    go_ret
    exact ⟨_, rfl, rfl⟩
  go_enter Ebig.func15, Ebig.ntmps15
  go_wp2
  all_goals
    go_ret
    exact ⟨_, rfl, rfl⟩

end Go.Proofs.Yoebiw.Src
