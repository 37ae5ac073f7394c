import Derived.Test.Qxb6617428aW2
namespace Go.Proofs.Qxb6617428a
open Go.RowKit

set_option maxHeartbeats 1000000 in
/-- 'Join' -/
theorem join_any (ms : List (Nat × Step)) : ∀ (ns : List (Nat × Step)) (w : World), Chain w ns → Chain w ms →
    Calls Try.prog 9 #[.pointer (ptr ns), .pointer (ptr ms)] w fun e w' => ∃ ms' : List (Nat × Step), e = .returned (.pointer (ptr (ms' ++ ns))) ∧ ms'.map Prod.snd = ms.map Prod.snd ∧ Chain w' (ms' ++ ns) ∧ Below w.heap.size w w' := by
  induction ms with
  | nil =>
    intro ns w hns _
    show Calls Try.prog 9 #[.pointer (ptr ns), .pointer none] w _
    go_enter Try.func9, Try.ntmps9
    go_wp2_with fail
    go_ret
    exact ⟨[], rfl, rfl, hns, Below.refl _ _⟩
  | cons m ms ih =>
    intro ns w hns hms
    obtain ⟨hm, hms⟩ := hms
    obtain ⟨b, s⟩ := m
    show Calls Try.prog 9 #[.pointer (ptr ns), .pointer (some ⟨b, 0, none⟩)] w _
    have hp0 := hm.c0
    simp only at hp0
    go_enter Try.func9, Try.ntmps9
    go_wp2_with fail
    refine (ih ns w hns hms).mono ?_
    rintro e w1 ⟨ms', rfl, hmap, hch, hbel⟩
    obtain ⟨h0, h1, h2, h3⟩ := hm.below hbel
    have R := chain_push hch hbel s
    have HM : Hid (ms'.map Prod.snd = ms.map Prod.snd) := hmap
    clear hmap ih hch hns hms hm hp0
    go_wp2_with fail
    go_region
    all_goals go_wp2_with fail
    all_goals
      go_ret
      exact ⟨(w1.heap.size, s) :: ms', rfl, by rw [List.map_cons, HM.out]; rfl, R.1, R.2⟩
end Go.Proofs.Qxb6617428a
