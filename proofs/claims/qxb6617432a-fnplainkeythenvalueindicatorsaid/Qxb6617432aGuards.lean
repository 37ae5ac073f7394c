import Derived.Test.Qxb6617432aBase
namespace Go.Proofs.Qxb6617432a
open Go.RowKit

theorem guardVF_yes (s : ByteArray) (p : Int) (x y : Bool) (w : World) (hs : s.size ≤ 1048576) : Calls Try.prog 7 #[.string s, .int .i64 p, .bool x, .bool y] w fun e w' => e = .returned (.bool true) ∧ w' = w := by
  go_enter Try.func7, Try.ntmps7
  go_wp2
  go_ret
  exact ⟨rfl, rfl⟩
theorem guardVF_no (s : ByteArray) (p : Int) (x y : Bool) (w : World) (hs : 1048576 < s.size) : Calls Try.prog 7 #[.string s, .int .i64 p, .bool x, .bool y] w fun e w' => e = .returned (.bool false) ∧ w' = w := by
  go_enter Try.func7, Try.ntmps7
  go_wp2
  go_ret
  exact ⟨rfl, rfl⟩

theorem guardPL_yes (s : ByteArray) (p : Int) (x : Bool) (w : World) (hs : s.size ≤ 1048576) : Calls Try.prog 12 #[.string s, .int .i64 p, .bool x] w fun e w' => e = .returned (.bool true) ∧ w' = w := by
  go_enter Try.func12, Try.ntmps12
  go_wp2
  go_ret
  exact ⟨rfl, rfl⟩
theorem guardPL_no (s : ByteArray) (p : Int) (x : Bool) (w : World) (hs : 1048576 < s.size) : Calls Try.prog 12 #[.string s, .int .i64 p, .bool x] w fun e w' => e = .returned (.bool false) ∧ w' = w := by
  go_enter Try.func12, Try.ntmps12
  go_wp2
  go_ret
  exact ⟨rfl, rfl⟩

theorem guardPC_yes (s : ByteArray) (p q : Int) (x : Bool) (w : World) (hs : s.size ≤ 1048576) : Calls Try.prog 16 #[.string s, .int .i64 p, .int .i64 q, .bool x] w fun e w' => e = .returned (.bool true) ∧ w' = w := by
  go_enter Try.func16, Try.ntmps16
  go_wp2
  go_ret
  exact ⟨rfl, rfl⟩
theorem guardPC_no (s : ByteArray) (p q : Int) (x : Bool) (w : World) (hs : 1048576 < s.size) : Calls Try.prog 16 #[.string s, .int .i64 p, .int .i64 q, .bool x] w fun e w' => e = .returned (.bool false) ∧ w' = w := by
  go_enter Try.func16, Try.ntmps16
  go_wp2
  go_ret
  exact ⟨rfl, rfl⟩

theorem guardPK_yes (s : ByteArray) (p : Int) (x : Bool) (w : World) (hs : s.size ≤ 1048576) : Calls Try.prog 20 #[.string s, .int .i64 p, .bool x] w fun e w' => e = .returned (.bool true) ∧ w' = w := by
  go_enter Try.func20, Try.ntmps20
  go_wp2
  go_ret
  exact ⟨rfl, rfl⟩
theorem guardPK_no (s : ByteArray) (p : Int) (x : Bool) (w : World) (hs : 1048576 < s.size) : Calls Try.prog 20 #[.string s, .int .i64 p, .bool x] w fun e w' => e = .returned (.bool false) ∧ w' = w := by
  go_enter Try.func20, Try.ntmps20
  go_wp2
  go_ret
  exact ⟨rfl, rfl⟩

end Go.Proofs.Qxb6617432a
