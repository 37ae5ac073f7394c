import Derived.Test.Qxb6617432aFollows
namespace Go.Proofs.Qxb6617432a
open Go.RowKit

/-- What 'ZZValueFollows' answers. -/
def ZVF (s : ByteArray) (pos : Nat) (adj fl : Bool) (ok : Bool) (at' : Nat) : Prop :=
  ∃ i, Skip s pos i ∧ ok = colonAt s adj fl i ∧ at' = if colonAt s adj fl i then i else pos

set_option maxHeartbeats 1000000 in
/-- 'ZZValueFollows' -/
theorem zzFollows_any (s : ByteArray) (pos : Nat) (adj fl : Bool) (w : World) (hp : pos ≤ s.size) (hs : s.size ≤ 1048576) :
    Calls Try.prog 11 #[.string s, .int .i64 pos, .bool adj, .bool fl] w fun e w' => ∃ ok at', e = .returned (.tuple #[.bool ok, .int .i64 (at' : Nat)]) ∧ ZVF s pos adj fl ok at' ∧ Below w.heap.size w w' := by
  go_enter Try.func11, Try.ntmps11
  go_wp2_with fail
  refine (valueFollows_any s pos adj fl w.heap.size _ hp hs ?_ ?_ ?_).mono ?_
  · simp
  · simp
  · simp
  rintro e w1 ⟨i, hsk, ⟨hc, rfl, rfl⟩ | ⟨hc, rfl, rfl⟩⟩
  · go_wp2_with fail
    go_quiet (fail)
    go_wp2_with fail
    go_ret2
    exact ⟨true, i, rfl, ⟨i, hsk, hc.symm, by rw [if_pos hc]⟩, below_drewN ((Below.refl _ _).alloc (Nat.le_refl _) _) _⟩
  · go_wp2_with fail
    go_quiet (fail)
    go_wp2_with fail
    go_ret2
    exact ⟨false, pos, rfl, ⟨i, hsk, hc.symm, by rw [hc]; rfl⟩, below_drewN ((Below.refl _ _).alloc (Nat.le_refl _) _) _⟩
end Go.Proofs.Qxb6617432a
