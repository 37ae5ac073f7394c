/-
  Seat b6617432a: bytes of a text, the classes of bytes, and the contracts of the functions that tell them.
-/
import Derived.Test.Qxb6617432aRows
import Derived.WalkKit
import Derived.ProofKit
import Derived.OpenShut
import Derived.ShutString
import Derived.Below
import Derived.WalkLawsBesides
import Derived.Outline
import Derived.Deep.QuietTactic
import Derived.BigQuiet
namespace Go.Proofs.Qxb6617432a
open Go.RowKit

def blank (c : Int) : Bool := c == 32 || c == 9
def ends (c : Int) : Bool := c == 32 || c == 9 || c == 10 || c == 0
def flow (c : Int) : Bool := c == 44 || c == 91 || c == 93 || c == 123 || c == 125
/-- May c stand inside a plain scalar after its start? -/
def goes (c : Int) (f : Bool) : Bool := !ends c && !(f && flow c)

/-- 'blankB' -/
theorem blankB_any (c : Int) (w : World) : Calls Try.prog 8 #[.int .u8 c] w fun e w' => e = .returned (.bool (blank c)) ∧ w' = w := by
  by_cases h0 : (c == 32) = true
  · go_enter Try.func8, Try.ntmps8
    go_wp2
    go_ret
    exact ⟨by simp [blank, h0], rfl⟩
  have g0 : (c == 32) = false := by simpa using h0
  clear h0
  by_cases h1 : (c == 9) = true
  · go_enter Try.func8, Try.ntmps8
    go_wp2
    go_ret
    exact ⟨by simp [blank, h1], rfl⟩
  have g1 : (c == 9) = false := by simpa using h1
  clear h1
  go_enter Try.func8, Try.ntmps8
  go_wp2
  go_ret
  exact ⟨by simp [blank, g0, g1], rfl⟩

/-- 'endsB' -/
theorem endsB_any (c : Int) (w : World) : Calls Try.prog 9 #[.int .u8 c] w fun e w' => e = .returned (.bool (ends c)) ∧ w' = w := by
  by_cases h0 : (c == 32) = true
  · go_enter Try.func9, Try.ntmps9
    go_wp2
    go_ret
    exact ⟨by simp [ends, h0], rfl⟩
  have g0 : (c == 32) = false := by simpa using h0
  clear h0
  by_cases h1 : (c == 9) = true
  · go_enter Try.func9, Try.ntmps9
    go_wp2
    go_ret
    exact ⟨by simp [ends, h1], rfl⟩
  have g1 : (c == 9) = false := by simpa using h1
  clear h1
  by_cases h2 : (c == 10) = true
  · go_enter Try.func9, Try.ntmps9
    go_wp2
    go_ret
    exact ⟨by simp [ends, h2], rfl⟩
  have g2 : (c == 10) = false := by simpa using h2
  clear h2
  by_cases h3 : (c == 0) = true
  · go_enter Try.func9, Try.ntmps9
    go_wp2
    go_ret
    exact ⟨by simp [ends, h3], rfl⟩
  have g3 : (c == 0) = false := by simpa using h3
  clear h3
  go_enter Try.func9, Try.ntmps9
  go_wp2
  go_ret
  exact ⟨by simp [ends, g0, g1, g2, g3], rfl⟩

/-- 'flowB' -/
theorem flowB_any (c : Int) (w : World) : Calls Try.prog 10 #[.int .u8 c] w fun e w' => e = .returned (.bool (flow c)) ∧ w' = w := by
  by_cases h0 : (c == 44) = true
  · go_enter Try.func10, Try.ntmps10
    go_wp2
    go_ret
    exact ⟨by simp [flow, h0], rfl⟩
  have g0 : (c == 44) = false := by simpa using h0
  clear h0
  by_cases h1 : (c == 91) = true
  · go_enter Try.func10, Try.ntmps10
    go_wp2
    go_ret
    exact ⟨by simp [flow, h1], rfl⟩
  have g1 : (c == 91) = false := by simpa using h1
  clear h1
  by_cases h2 : (c == 93) = true
  · go_enter Try.func10, Try.ntmps10
    go_wp2
    go_ret
    exact ⟨by simp [flow, h2], rfl⟩
  have g2 : (c == 93) = false := by simpa using h2
  clear h2
  by_cases h3 : (c == 123) = true
  · go_enter Try.func10, Try.ntmps10
    go_wp2
    go_ret
    exact ⟨by simp [flow, h3], rfl⟩
  have g3 : (c == 123) = false := by simpa using h3
  clear h3
  by_cases h4 : (c == 125) = true
  · go_enter Try.func10, Try.ntmps10
    go_wp2
    go_ret
    exact ⟨by simp [flow, h4], rfl⟩
  have g4 : (c == 125) = false := by simpa using h4
  clear h4
  go_enter Try.func10, Try.ntmps10
  go_wp2
  go_ret
  exact ⟨by simp [flow, g0, g1, g2, g3, g4], rfl⟩

/-- 'isBlank' -/
theorem isBlank_any (c : Int) (w : World) : Calls Try.prog 26 #[.int .u8 c] w fun e w' => e = .returned (.bool (blank c)) ∧ w' = w := by
  by_cases h0 : (c == 32) = true
  · go_enter Try.func26, Try.ntmps26
    go_wp2
    go_ret
    exact ⟨by simp [blank, h0], rfl⟩
  have g0 : (c == 32) = false := by simpa using h0
  clear h0
  by_cases h1 : (c == 9) = true
  · go_enter Try.func26, Try.ntmps26
    go_wp2
    go_ret
    exact ⟨by simp [blank, h1], rfl⟩
  have g1 : (c == 9) = false := by simpa using h1
  clear h1
  go_enter Try.func26, Try.ntmps26
  go_wp2
  go_ret
  exact ⟨by simp [blank, g0, g1], rfl⟩

/-- 'isBlankOrEnd' -/
theorem isBlankOrEnd_any (c : Int) (w : World) : Calls Try.prog 27 #[.int .u8 c] w fun e w' => e = .returned (.bool (ends c)) ∧ w' = w := by
  by_cases h0 : (c == 32) = true
  · go_enter Try.func27, Try.ntmps27
    go_wp2
    go_ret
    exact ⟨by simp [ends, h0], rfl⟩
  have g0 : (c == 32) = false := by simpa using h0
  clear h0
  by_cases h1 : (c == 9) = true
  · go_enter Try.func27, Try.ntmps27
    go_wp2
    go_ret
    exact ⟨by simp [ends, h1], rfl⟩
  have g1 : (c == 9) = false := by simpa using h1
  clear h1
  by_cases h2 : (c == 10) = true
  · go_enter Try.func27, Try.ntmps27
    go_wp2
    go_ret
    exact ⟨by simp [ends, h2], rfl⟩
  have g2 : (c == 10) = false := by simpa using h2
  clear h2
  by_cases h3 : (c == 0) = true
  · go_enter Try.func27, Try.ntmps27
    go_wp2
    go_ret
    exact ⟨by simp [ends, h3], rfl⟩
  have g3 : (c == 0) = false := by simpa using h3
  clear h3
  go_enter Try.func27, Try.ntmps27
  go_wp2
  go_ret
  exact ⟨by simp [ends, g0, g1, g2, g3], rfl⟩

/-- 'isFlowIndicator' -/
theorem isFlow_any (c : Int) (w : World) : Calls Try.prog 28 #[.int .u8 c] w fun e w' => e = .returned (.bool (flow c)) ∧ w' = w := by
  by_cases h0 : (c == 44) = true
  · go_enter Try.func28, Try.ntmps28
    go_wp2
    go_ret
    exact ⟨by simp [flow, h0], rfl⟩
  have g0 : (c == 44) = false := by simpa using h0
  clear h0
  by_cases h1 : (c == 91) = true
  · go_enter Try.func28, Try.ntmps28
    go_wp2
    go_ret
    exact ⟨by simp [flow, h1], rfl⟩
  have g1 : (c == 91) = false := by simpa using h1
  clear h1
  by_cases h2 : (c == 93) = true
  · go_enter Try.func28, Try.ntmps28
    go_wp2
    go_ret
    exact ⟨by simp [flow, h2], rfl⟩
  have g2 : (c == 93) = false := by simpa using h2
  clear h2
  by_cases h3 : (c == 123) = true
  · go_enter Try.func28, Try.ntmps28
    go_wp2
    go_ret
    exact ⟨by simp [flow, h3], rfl⟩
  have g3 : (c == 123) = false := by simpa using h3
  clear h3
  by_cases h4 : (c == 125) = true
  · go_enter Try.func28, Try.ntmps28
    go_wp2
    go_ret
    exact ⟨by simp [flow, h4], rfl⟩
  have g4 : (c == 125) = false := by simpa using h4
  clear h4
  go_enter Try.func28, Try.ntmps28
  go_wp2
  go_ret
  exact ⟨by simp [flow, g0, g1, g2, g3, g4], rfl⟩

/-- 'goesOnB' -/
theorem goesOnB_any (c : Int) (f : Bool) (w : World) : Calls Try.prog 24 #[.int .u8 c, .bool f] w fun e w' => e = .returned (.bool (goes c f)) ∧ w' = w := by
  cases he : ends c with
  | true =>
    go_enter Try.func24, Try.ntmps24
    go_wp2_with (go_at_call 9; refine (endsB_any _ _).mono ?_; rintro e w' ⟨rfl, rfl⟩)
    go_ret
    exact ⟨by simp [goes, he], rfl⟩
  | false =>
    cases f with
    | false =>
      go_enter Try.func24, Try.ntmps24
      go_wp2_with (go_at_call 9; refine (endsB_any _ _).mono ?_; rintro e w' ⟨rfl, rfl⟩)
      go_ret
      exact ⟨by simp [goes, he], rfl⟩
    | true =>
      go_enter Try.func24, Try.ntmps24
      go_wp2_with (first | (go_at_call 9; refine (endsB_any _ _).mono ?_; rintro e w' ⟨rfl, rfl⟩) | (go_at_call 10; refine (flowB_any _ _).mono ?_; rintro e w' ⟨rfl, rfl⟩))
      go_ret
      exact ⟨by simp [goes, he], rfl⟩

/-- 'plainSafe' -/
theorem plainSafe_any (c : Int) (f : Bool) (w : World) : Calls Try.prog 29 #[.int .u8 c, .bool f] w fun e w' => e = .returned (.bool (goes c f)) ∧ w' = w := by
  cases he : ends c with
  | true =>
    go_enter Try.func29, Try.ntmps29
    go_wp2_with (go_at_call 27; refine (isBlankOrEnd_any _ _).mono ?_; rintro e w' ⟨rfl, rfl⟩)
    go_ret
    exact ⟨by simp [goes, he], rfl⟩
  | false =>
    cases f with
    | false =>
      go_enter Try.func29, Try.ntmps29
      go_wp2_with (go_at_call 27; refine (isBlankOrEnd_any _ _).mono ?_; rintro e w' ⟨rfl, rfl⟩)
      go_ret
      exact ⟨by simp [goes, he], rfl⟩
    | true =>
      go_enter Try.func29, Try.ntmps29
      go_wp2_with (first | (go_at_call 27; refine (isBlankOrEnd_any _ _).mono ?_; rintro e w' ⟨rfl, rfl⟩) | (go_at_call 28; refine (isFlow_any _ _).mono ?_; rintro e w' ⟨rfl, rfl⟩))
      go_ret
      exact ⟨by simp [goes, he], rfl⟩

end Go.Proofs.Qxb6617432a
