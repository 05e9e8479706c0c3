/- The walk of FnPosAtRecordedChangeKeepsPlace. -/
import Derived.Test.Qxb6623335aHist
import Derived.Test.Qxb6623335aCopyLaw
namespace Go.Proofs.Qxb6623335a
open Go.RowKit

set_option maxHeartbeats 400000 in
theorem bytesB_yes (a : Option Addr) (n cap : Nat) (nm : ByteArray) (x2 x3 x4 x5 x6 : Int) (x7 x8 : Bool) (w : World) (h : n + nm.size ≤ 1048576) :
    Calls Try.prog 8 #[.slice a n cap, .string nm, .int .i64 x2, .int .i64 x3, .int .i64 x4, .int .i64 x5, .int .u8 x6, .bool x7, .bool x8] w fun e w' => e = .returned (.bool true) ∧ w' = w := by
  go_enter Try.func8, Try.ntmps8
  go_wp2
  go_ret
  exact ⟨rfl, rfl⟩

set_option maxHeartbeats 400000 in
theorem bytesB_no (a : Option Addr) (n cap : Nat) (nm : ByteArray) (x2 x3 x4 x5 x6 : Int) (x7 x8 : Bool) (w : World) (h : 1048576 < n + nm.size) (hn : n ≤ 9223372036854775807) (hs : nm.size ≤ 9223372036854775807) :
    Calls Try.prog 8 #[.slice a n cap, .string nm, .int .i64 x2, .int .i64 x3, .int .i64 x4, .int .i64 x5, .int .u8 x6, .bool x7, .bool x8] w fun e w' => e = .returned (.bool false) ∧ w' = w := by
  by_cases c1 : n ≤ 1048576
  · by_cases c2 : nm.size ≤ 1048576
    · go_enter Try.func8, Try.ntmps8
      go_wp2
      go_ret
      exact ⟨rfl, rfl⟩
    · go_enter Try.func8, Try.ntmps8
      go_wp2
      go_ret
      exact ⟨rfl, rfl⟩
  · go_enter Try.func8, Try.ntmps8
    go_wp2
    go_ret
    exact ⟨rfl, rfl⟩

end Go.Proofs.Qxb6623335a
