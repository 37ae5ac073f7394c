import Derived.Test.Qxb6617428aW2
namespace Go.Proofs.Qxb6617428a
open Go.RowKit

set_option maxHeartbeats 1000000 in
/-- 'buildPathFieldB1' -/
theorem build_any (a : Option Addr) (cap : Nat) (S : List Step) (w : World) (h : IsSteps w a S) :
    Calls Try.prog 8 #[.slice a S.length cap] w fun e w' => ∃ ns : List (Nat × Step), e = .returned (.pointer (ptr ns)) ∧ ns.map Prod.snd = S.reverse ∧ Chain w' ns ∧ Below w.heap.size w w' := by
  have hl := h.len
  unfold maxLen at hl
  go_enter Try.func8, Try.ntmps8
  go_wp2
  go_loopw [3, 4] (fun p i wr => ∃ k : Nat, k ≤ S.length ∧ i = .int .i64 k ∧ ∃ ns : List (Nat × Step), p = .pointer (ptr ns) ∧ ns.map Prod.snd = (S.take k).reverse ∧ Chain wr ns ∧ Below w.heap.size w wr) (fun _ i _ => S.length - (intOf i).toNat)
  case atStart => exact ⟨0, Nat.zero_le _, rfl, [], rfl, by simp, trivial, Below.refl _ _⟩
  case round =>
    obtain ⟨k, hk, rfl, ns, rfl, hns, hch, hbel⟩ := hrel
    by_cases hlt : k < S.length
    · obtain ⟨c, off, rfl, hc0, hc1, hc2⟩ := (h.below hbel).cells k S[k] (by simp [hlt])
      have HN : Hid (ns.map Prod.snd = (S.take k).reverse) := hns
      clear hns
      have HL : (k : Int) < S.length := by omega
      have R := chain_push hch hbel S[k]
      go_wp2
      go_region_with (go_at_call 18; refine (new_any _ _ _ _ _).mono ?_; rintro e w' ⟨rfl, rfl⟩)
      all_goals go_wp2
      all_goals
        go_roundw
        case rel => exact ⟨k + 1, by omega, by go_num, (wr.heap.size, S[k]) :: ns, rfl, map_step hlt HN.out _, R.1, R.2⟩
        case measure => simp [intOf]; omega
    · have HN : Hid (ns.map Prod.snd = S.reverse) := by rw [List.take_of_length_le (by omega)] at hns; exact hns
      clear hns
      go_wp2
      go_ret
      exact ⟨ns, rfl, HN.out, hch, hbel⟩

end Go.Proofs.Qxb6617428a
