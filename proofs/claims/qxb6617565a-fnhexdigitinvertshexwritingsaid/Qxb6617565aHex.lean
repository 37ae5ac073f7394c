import Derived.Test.Qxb6617565aRows
import Derived.WalkKit
import Derived.ProofKit
import Derived.OpenShut
import Derived.ShutString
import Derived.WalkLawsBesides
import Derived.Outline
namespace Go.Proofs.Qxb6617565a
open Go.RowKit

/-- Is c a hexadecimal digit, and which? -/
def hexOk (c : Int) : Bool := decide ((48 ≤ c ∧ c ≤ 57) ∨ (97 ≤ c ∧ c ≤ 102) ∨ (65 ≤ c ∧ c ≤ 70))
def hexV (c : Int) : Int := if 48 ≤ c ∧ c ≤ 57 then c - 48 else if 97 ≤ c ∧ c ≤ 102 then c - 87 else if 65 ≤ c ∧ c ≤ 70 then c - 55 else 0

theorem ret2 {a b : Int} {x y : Bool} (h : a = b) (g : x = y) : Ending.returned (.tuple #[.int .i32 a, .bool x]) = .returned (.tuple #[.int .i32 b, .bool y]) := by rw [h, g]
theorem ret1 {k : IntKind} {a b : Int} (h : a = b) : Ending.returned (.int k a) = .returned (.int k b) := by rw [h]

/-- 'hexDigit' -/
theorem hexDigit_any (c : Int) (w : World) (h0 : 0 ≤ c) (h1 : c ≤ 255) : Calls Try.prog 7 #[.int .u8 c] w fun e w' => e = .returned (.tuple #[.int .i32 (hexV c), .bool (hexOk c)]) ∧ w' = w := by
  by_cases a : 48 ≤ c ∧ c ≤ 57
  · obtain ⟨a1, a2⟩ := a
    go_enter Try.func7, Try.ntmps7
    go_wp2
    go_ret2
    exact ⟨ret2 (by simp [hexV, a1, a2]) (by simp [hexOk, a1, a2]), rfl⟩
  by_cases b : 97 ≤ c ∧ c ≤ 102
  · obtain ⟨b1, b2⟩ := b
    have HA : Hid (¬ (48 ≤ c ∧ c ≤ 57)) := a
    clear a
    go_enter Try.func7, Try.ntmps7
    go_wp2
    go_ret2
    exact ⟨ret2 (by unfold hexV; rw [if_neg HA.out, if_pos ⟨b1, b2⟩]; omega) (by simp [hexOk, b1, b2]), rfl⟩
  by_cases d : 65 ≤ c ∧ c ≤ 70
  · obtain ⟨d1, d2⟩ := d
    have HA : Hid (¬ (48 ≤ c ∧ c ≤ 57)) := a
    have HB : Hid (¬ (97 ≤ c ∧ c ≤ 102)) := b
    clear a b
    go_enter Try.func7, Try.ntmps7
    go_wp2
    go_ret2
    exact ⟨ret2 (by unfold hexV; rw [if_neg HA.out, if_neg HB.out, if_pos ⟨d1, d2⟩]; omega) (by simp [hexOk, d1, d2]), rfl⟩
  have HV : Hid (hexV c = 0) := by show hexV c = 0; unfold hexV; rw [if_neg a, if_neg b, if_neg d]
  have HO : Hid (hexOk c = false) := by show hexOk c = false; unfold hexOk; exact decide_eq_false (by omega)
  have hr : c < 48 ∨ (57 < c ∧ c < 65) ∨ (70 < c ∧ c < 97) ∨ 102 < c := by omega
  clear a b d
  rcases hr with h | ⟨h, h'⟩ | ⟨h, h'⟩ | h
  all_goals
    go_enter Try.func7, Try.ntmps7
    go_wp2
    go_ret2
    exact ⟨ret2 HV.out.symm HO.out.symm, rfl⟩
end Go.Proofs.Qxb6617565a
