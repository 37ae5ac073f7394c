import Derived.Test.Qxb6617432aLineEnd
namespace Go.Proofs.Qxb6617432a
open Go.RowKit

/-- 'ZZPlainLineEnd' -/
theorem zzLineEnd_any (s : ByteArray) (pos : Nat) (fl : Bool) (w : World) (hp : pos ≤ s.size) (hs : s.size ≤ 1048576) :
    Calls Try.prog 15 #[.string s, .int .i64 pos, .bool fl] w fun e w' => ∃ x : Nat, e = .returned (.int .i64 x) ∧ PLE s pos fl x ∧ Below w.heap.size w w' := by
  go_enter Try.func15, Try.ntmps15
  go_wp2_with fail
  refine (plainLineEnd_any s pos fl w.heap.size _ hp hs ?_ ?_).mono ?_
  · simp
  · simp
  rintro e w1 ⟨⟨x, rfl, hpl⟩, rfl⟩
  go_wp2_with fail
  go_ret
  exact ⟨x, rfl, hpl, (Below.refl _ _).alloc (Nat.le_refl _) _⟩
end Go.Proofs.Qxb6617432a
