import Derived.Test.Qxb6617432aZZLineEnd
import Derived.Test.Qxb6617432aStopWalks
import Derived.Test.Qxb6617432aGuards
namespace Go.Proofs.Qxb6617432a.fnPlainLineEndFirstStop
open Go.RowKit

set_option maxHeartbeats 1000000 in
theorem walk (s : ByteArray) (a1 : Int) (fl : Bool) (w : World) :
    Calls Try.prog 4 #[.string s, .int .i64 a1, .bool fl] w fun e w' => e = .returned (.bool true) ∧ Below w.heap.size w w' := by
  by_cases hs : s.size ≤ 1048576
  rotate_left
  · go_enter Try.func4, Try.ntmps4
    go_wp2_with (go_at_call 12; refine (guardPL_no s a1 fl _ (by omega)).mono ?_; rintro e w' ⟨rfl, rfl⟩)
    go_ret
    exact ⟨rfl, Below.refl _ _⟩
  go_enter Try.func4, Try.ntmps4
  go_wp2_with fail
  refine (guardPL_yes s a1 fl w hs).mono ?_
  rintro e w' ⟨rfl, hw⟩
  subst hw
  by_cases h64 : s.size ≤ 65536
  rotate_left
  · go_wp2_with fail
    go_ret
    exact ⟨rfl, Below.refl _ _⟩
  by_cases hneg : a1 < 0
  · go_wp2_with fail
    go_ret
    exact ⟨rfl, Below.refl _ _⟩
  by_cases hbig : (s.size : Int) < a1
  · go_wp2_with fail
    go_ret
    exact ⟨rfl, Below.refl _ _⟩
  obtain ⟨pos, rfl⟩ : ∃ pos : Nat, a1 = (pos : Int) := ⟨a1.toNat, by omega⟩
  have hp : pos ≤ s.size := by omega
  clear hneg hbig
  go_wp2_with fail
  refine (firstStopB_any s pos fl w' hp hs).mono ?_
  rintro e w ⟨⟨t, rfl, hF⟩, hw⟩
  subst hw
  go_wp2_with fail
  refine (trimBackB_any s pos t w hF.lo hF.hi hs).mono ?_
  rintro e w' ⟨⟨x, rfl, hT⟩, hw⟩
  subst hw
  go_wp2_with fail
  refine (zzLineEnd_any s pos fl w' hp hs).mono ?_
  rintro e w1 ⟨y, rfl, hz, hb⟩
  obtain rfl := PLE.unique hF hT hz
  go_wp2_with fail
  go_ret
  exact ⟨rfl, hb⟩
end Go.Proofs.Qxb6617432a.fnPlainLineEndFirstStop
