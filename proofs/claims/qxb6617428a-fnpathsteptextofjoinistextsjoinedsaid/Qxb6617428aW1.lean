import Derived.Test.Qxb6617428aBase
namespace Go.Proofs.Qxb6617428a
open Go.RowKit
set_option maxHeartbeats 400000 in
/-- 'pathStepsBytesFieldB1': it returns some number; nothing turns. -/
theorem bytes_any (a : Option Addr) (cap : Nat) (S : List Step) (acc : Int) (w : World) (h : IsSteps w a S) :
    Calls Try.prog 7 #[.slice a S.length cap, .int .i64 acc] w fun e w' => (∃ n : Int, e = .returned (.int .i64 n)) ∧ w' = w := by
  have hl := h.len
  unfold maxLen at hl
  go_enter Try.func7, Try.ntmps7
  go_wp2
  go_loop [1, 5] (fun n i => ∃ k : Nat, k ≤ S.length ∧ i = .int .i64 k ∧ ∃ m : Int, n = .int .i64 m) (fun _ i => S.length - (intOf i).toNat)
  case atStart => exact ⟨0, Nat.zero_le _, rfl, _, rfl⟩
  case round =>
    obtain ⟨k, hk, rfl, m, rfl⟩ := hrel
    by_cases hlt : k < S.length
    · obtain ⟨b, off, rfl, hc, -, -⟩ := h.cells k S[k] (by simp [hlt])
      generalize S[k].name = nm at hc
      go_wp2
      · go_ret
        exact ⟨⟨_, rfl⟩, rfl⟩
      · go_round
        case rel => exact ⟨k + 1, by omega, by go_num, _, rfl⟩
        case measure => simp [intOf]; omega
    · go_wp2
      go_ret
      exact ⟨⟨_, rfl⟩, rfl⟩

/-- The sum of the names' lengths. -/
def tot (S : List Step) : Nat := (S.map fun s => s.name.size).sum

theorem tot_snoc (S : List Step) (k : Nat) (h : k < S.length) : tot (S.take (k + 1)) = tot (S.take k) + S[k].name.size := by
  unfold tot
  rw [List.take_succ_eq_append_getElem h, List.map_append, List.sum_append]
  simp only [List.map_cons, List.map_nil, List.sum_cons, List.sum_nil, Nat.add_zero]

/-- The guard on sizes says no; or it says yes, and the sum of all lengths is at most 2^20. -/
def Says (n : Nat) (e : Ending) : Prop := e = .returned (.bool false) ∨ (e = .returned (.bool true) ∧ n ≤ 1048576)
theorem Says.no (n : Nat) : Says n (.returned (.bool false)) := Or.inl rfl
theorem Says.yes {n : Nat} (h : n ≤ 1048576) : Says n (.returned (.bool true)) := Or.inr ⟨rfl, h⟩

set_option maxHeartbeats 1000000 in
/-- 'zzBytes_FnPathJoinAppendsRestAfterReceiver': where it says yes both lists are small; nothing turns. -/
theorem guard6_any (a b : Option Addr) (capa capb : Nat) (S T : List Step) (w : World) (ha : IsSteps w a S) (hb : IsSteps w b T) :
    Calls Try.prog 6 #[.slice a S.length capa, .slice b T.length capb] w fun e w' => Says (S.length + tot S + T.length + tot T) e ∧ w' = w := by
  have hl := ha.len
  have hl' := hb.len
  unfold maxLen at hl hl'
  by_cases h1 : S.length ≤ 1048576
  all_goals go_enter Try.func6, Try.ntmps6
  all_goals go_wp2
  rotate_left
  · go_ret
    exact ⟨Says.no _, rfl⟩
  go_loop [5, 6] (fun n i => ∃ k : Nat, k ≤ S.length ∧ i = .int .i64 k ∧ S.length + tot (S.take k) ≤ 1048576 ∧ n = .int .i64 ((S.length : Int) + (tot (S.take k) : Nat))) (fun _ i => S.length - (intOf i).toNat)
  case atStart => exact ⟨0, Nat.zero_le _, rfl, by simp [tot, h1], by simp [tot]⟩
  case round =>
    obtain ⟨k, hk, rfl, hm, rfl⟩ := hrel
    by_cases hlt : k < S.length
    · have HS : Hid _ := tot_snoc S k hlt
      obtain ⟨c, off, rfl, hc, -, -⟩ := ha.cells k S[k] (by simp [hlt])
      generalize S[k].name = nm at hc HS
      go_wp2
      · go_ret
        exact ⟨Says.no _, rfl⟩
      · go_ret
        exact ⟨Says.no _, rfl⟩
      · go_round
        case rel => exact ⟨k + 1, by omega, by go_num, by rw [HS.out]; omega, by rw [HS.out]; go_num⟩
        case measure => simp [intOf]; omega
    · have HT : Hid (tot (S.take k) = tot S) := by rw [List.take_of_length_le (by omega)]; rfl
      generalize tot (S.take k) = ts at HT hm
      by_cases h2 : T.length ≤ 1048576
      · by_cases h3 : S.length + ts + T.length ≤ 1048576
        · go_wp2
          go_loop [5, 7] (fun n i => ∃ k : Nat, k ≤ T.length ∧ i = .int .i64 k ∧ S.length + ts + T.length + tot (T.take k) ≤ 1048576 ∧ n = .int .i64 ((S.length : Int) + ts + T.length + (tot (T.take k) : Nat))) (fun _ i => T.length - (intOf i).toNat)
          case atStart => exact ⟨0, Nat.zero_le _, rfl, by simp [tot]; omega, by simp [tot]⟩
          case round =>
            obtain ⟨q, hq, rfl, hmq, rfl⟩ := hrel
            by_cases hltq : q < T.length
            · have HS : Hid _ := tot_snoc T q hltq
              obtain ⟨c, off, rfl, hc, -, -⟩ := hb.cells q T[q] (by simp [hltq])
              generalize T[q].name = nm at hc HS
              go_wp2
              · go_ret
                exact ⟨Says.no _, rfl⟩
              · go_ret
                exact ⟨Says.no _, rfl⟩
              · go_round
                case rel => exact ⟨q + 1, by omega, by go_num, by rw [HS.out]; omega, by rw [HS.out]; go_num⟩
                case measure => simp [intOf]; omega
            · have HU : Hid (tot (T.take q) = tot T) := by rw [List.take_of_length_le (by omega)]; rfl
              go_wp2
              go_ret
              exact ⟨Says.yes (by rw [← HT.out, ← HU.out]; omega), rfl⟩
        · go_wp2
          go_ret
          exact ⟨Says.no _, rfl⟩
      · go_wp2
        go_ret
        exact ⟨Says.no _, rfl⟩
end Go.Proofs.Qxb6617428a
