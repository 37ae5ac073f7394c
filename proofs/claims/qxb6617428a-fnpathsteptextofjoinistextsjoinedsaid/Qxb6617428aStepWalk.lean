import Derived.Test.Qxb6617428aW2
import Derived.Test.Qxb6617428aText
namespace Go.Proofs.Qxb6617428a
open Go.RowKit

/-- What 'step' puts before and behind the name. -/
def pre (root : Bool) (s : Step) : ByteArray := if s.sub then ⟨#[91]⟩ else if root then ⟨#[]⟩ else ⟨#[46]⟩
def post (s : Step) : ByteArray := if s.sub then ⟨#[93]⟩ else ⟨#[]⟩

theorem stepText_parts (root : Bool) (s : Step) : stepText root s = (pre root s).data.toList ++ s.name.data.toList ++ (post s).data.toList := by
  unfold stepText pre post
  by_cases h : s.sub = true
  · simp [h]
  · cases root <;> simp [h]

theorem pre_size (root : Bool) (s : Step) : (pre root s).size ≤ 1 := by
  unfold pre
  by_cases h : s.sub = true
  · simp [h]; decide
  · cases root <;> simp [h] <;> decide
theorem post_size (s : Step) : (post s).size ≤ 1 := by
  unfold post
  by_cases h : s.sub = true <;> simp [h] <;> decide

set_option maxHeartbeats 400000 in
/-- '(*Path).step' -/
theorem step_any (b : Nat) (q : Option Addr) (s : Step) (w : World) (h : NodeAt w b q s) :
    Calls Try.prog 22 #[.pointer (some ⟨b, 0, none⟩)] w fun e w' => e = .returned (.tuple #[.string (pre q.isNone s), .string s.name, .string (post s)]) ∧ ∃ n, w' = w.drewN n := by
  obtain ⟨h0, h1, h2, h3⟩ := h
  obtain ⟨nm, sub, key⟩ := s
  cases sub
  · cases q with
    | none =>
      simp only at h0 h1 h2 h3
      go_enter Try.func22, Try.ntmps22
      go_wp2
      go_quiet (fail)
      go_wp2
      go_ret3
      exact ⟨rfl, _, rfl⟩
    | some q =>
      simp only at h0 h1 h2 h3
      go_enter Try.func22, Try.ntmps22
      go_wp2
      go_quiet (fail)
      go_wp2
      go_ret3
      exact ⟨rfl, _, rfl⟩
  · simp only at h0 h1 h2 h3
    go_enter Try.func22, Try.ntmps22
    go_wp2
    go_quiet (fail)
    go_wp2
    go_ret3
    exact ⟨rfl, _, rfl⟩

/-- 'ZZStep' -/
theorem zzstep_any (b : Nat) (q : Option Addr) (s : Step) (w : World) (h : NodeAt w b q s) :
    Calls Try.prog 21 #[.pointer (some ⟨b, 0, none⟩)] w fun e w' => e = .returned (.tuple #[.string (pre q.isNone s), .string s.name, .string (post s)]) ∧ ∃ n, w' = w.drewN n := by
  go_enter Try.func21, Try.ntmps21
  go_wp2_with fail
  refine (step_any b q s w h).mono ?_
  rintro e w1 ⟨rfl, n, rfl⟩
  go_wp2_with fail
  go_ret3
  exact ⟨rfl, _, rfl⟩
end Go.Proofs.Qxb6617428a
