import Derived.Test.Qxb6617428aW1
namespace Go.Proofs.Qxb6617428a
open Go.RowKit

set_option maxHeartbeats 1000000 in
/-- 'zzBytes_FnPathStepTextOfJoinIsTextsJoined': where it says yes both lists are small; nothing turns. -/
theorem guard13_any (a b : Option Addr) (capa capb : Nat) (S T : List Step) (w : World) (ha : IsSteps w a S) (hb : IsSteps w b T) :
    Calls Try.prog 13 #[.slice a S.length capa, .slice b T.length capb] w fun e w' => Says (S.length + tot S + T.length + tot T) e ∧ w' = w := by
  have hl := ha.len
  have hl' := hb.len
  unfold maxLen at hl hl'
  by_cases h1 : S.length ≤ 1048576
  all_goals go_enter Try.func13, Try.ntmps13
  all_goals go_wp2
  rotate_left
  · go_ret
    exact ⟨Says.no _, rfl⟩
  go_loop [5, 6] (fun n i => ∃ k : Nat, k ≤ S.length ∧ i = .int .i64 k ∧ S.length + tot (S.take k) ≤ 1048576 ∧ n = .int .i64 ((S.length : Int) + (tot (S.take k) : Nat))) (fun _ i => S.length - (intOf i).toNat)
  case atStart => exact ⟨0, Nat.zero_le _, rfl, by simp [tot, h1], by simp [tot]⟩
  case round =>
    obtain ⟨k, hk, rfl, hm, rfl⟩ := hrel
    by_cases hlt : k < S.length
    · have HS : Hid _ := tot_snoc S k hlt
      obtain ⟨c, off, rfl, hc, -, -⟩ := ha.cells k S[k] (by simp [hlt])
      generalize S[k].name = nm at hc HS
      go_wp2
      · go_ret
        exact ⟨Says.no _, rfl⟩
      · go_ret
        exact ⟨Says.no _, rfl⟩
      · go_round
        case rel => exact ⟨k + 1, by omega, by go_num, by rw [HS.out]; omega, by rw [HS.out]; go_num⟩
        case measure => simp [intOf]; omega
    · have HT : Hid (tot (S.take k) = tot S) := by rw [List.take_of_length_le (by omega)]; rfl
      generalize tot (S.take k) = ts at HT hm
      by_cases h2 : T.length ≤ 1048576
      · by_cases h3 : S.length + ts + T.length ≤ 1048576
        · go_wp2
          go_loop [5, 7] (fun n i => ∃ k : Nat, k ≤ T.length ∧ i = .int .i64 k ∧ S.length + ts + T.length + tot (T.take k) ≤ 1048576 ∧ n = .int .i64 ((S.length : Int) + ts + T.length + (tot (T.take k) : Nat))) (fun _ i => T.length - (intOf i).toNat)
          case atStart => exact ⟨0, Nat.zero_le _, rfl, by simp [tot]; omega, by simp [tot]⟩
          case round =>
            obtain ⟨q, hq, rfl, hmq, rfl⟩ := hrel
            by_cases hltq : q < T.length
            · have HS : Hid _ := tot_snoc T q hltq
              obtain ⟨c, off, rfl, hc, -, -⟩ := hb.cells q T[q] (by simp [hltq])
              generalize T[q].name = nm at hc HS
              go_wp2
              · go_ret
                exact ⟨Says.no _, rfl⟩
              · go_ret
                exact ⟨Says.no _, rfl⟩
              · go_round
                case rel => exact ⟨q + 1, by omega, by go_num, by rw [HS.out]; omega, by rw [HS.out]; go_num⟩
                case measure => simp [intOf]; omega
            · have HU : Hid (tot (T.take q) = tot T) := by rw [List.take_of_length_le (by omega)]; rfl
              go_wp2
              go_ret
              exact ⟨Says.yes (by rw [← HT.out, ← HU.out]; omega), rfl⟩
        · go_wp2
          go_ret
          exact ⟨Says.no _, rfl⟩
      · go_wp2
        go_ret
        exact ⟨Says.no _, rfl⟩
end Go.Proofs.Qxb6617428a
