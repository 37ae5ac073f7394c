import Derived.Test.Qxb6617432aStops
namespace Go.Proofs.Qxb6617432a
open Go.RowKit

set_option maxHeartbeats 1000000 in
/-- 'stopperB' -/
theorem stopperB_any (s : ByteArray) (pos j : Nat) (fl : Bool) (w : World) (hj : j < s.size) (hs : s.size ≤ 1048576) :
    Calls Try.prog 22 #[.string s, .int .i64 pos, .int .i64 j, .bool fl] w fun e w' => e = .returned (.bool (stopper s pos fl j)) ∧ w' = w := by
  have hbj := byt_eq hj
  by_cases h10 : (byt s j == 10) = true
  · have HV : Hid (stopper s pos fl j = true) := stop_nl h10
    go_enter Try.func22, Try.ntmps22
    go_wp2_with fail
    go_ret
    exact ⟨by rw [HV.out]; rfl, rfl⟩
  have h10' : (byt s j == 10) = false := by simpa using h10
  clear h10
  have hff : (fl = true ∧ flow (byt s j) = true) ∨ (fl = false ∨ fl = true ∧ flow (byt s j) = false) := by
    cases fl with
    | false => exact .inr (.inl rfl)
    | true =>
      cases hf : flow (byt s j) with
      | true => exact .inl ⟨rfl, rfl⟩
      | false => exact .inr (.inr ⟨rfl, rfl⟩)
  rcases hff with ⟨rfl, hf⟩ | hff
  · have HV : Hid (stopper s pos true j = true) := stop_flow hf
    go_enter Try.func22, Try.ntmps22
    go_wp2_with (go_at_call 10; refine (flowB_any _ _).mono ?_; rintro e w' ⟨rfl, rfl⟩)
    go_ret
    exact ⟨by rw [HV.out]; rfl, rfl⟩
  have HFF : Hid ((fl && flow (byt s j)) = false) := by
    show (fl && flow (byt s j)) = false
    rcases hff with rfl | ⟨rfl, h⟩
    · rfl
    · rw [h]; rfl
  cases hv : vcol s j fl with
  | true =>
    have HV : Hid (stopper s pos fl j = true) := stop_col hv
    rcases hff with rfl | ⟨rfl, hf⟩
    all_goals
      go_enter Try.func22, Try.ntmps22
      go_wp2_with (first | (go_at_call 10; refine (flowB_any _ _).mono ?_; rintro e w' ⟨rfl, rfl⟩) | (go_at_call 18; refine (valueColonB_any s j _ _ ?_ ?_).mono ?_; assumption; assumption; rintro e w' ⟨rfl, rfl⟩))
      go_ret
      exact ⟨by rw [HV.out]; rfl, rfl⟩
  | false =>
    have HS : Hid (stopper s pos fl j = (byt s j == 35 && (decide (pos < j) && blank (byt s (j - 1))))) := by
      show stopper s pos fl j = _
      unfold stopper
      rw [h10', HFF.out, hv]
      simp
    by_cases h35 : (byt s j == 35) = true
    rotate_left
    · have h35' : (byt s j == 35) = false := by simpa using h35
      have HV : Hid (stopper s pos fl j = false) := by show stopper s pos fl j = false; rw [HS.out, h35']; rfl
      clear h35 HS
      rcases hff with rfl | ⟨rfl, hf⟩
      all_goals
        go_enter Try.func22, Try.ntmps22
        go_wp2_with (first | (go_at_call 10; refine (flowB_any _ _).mono ?_; rintro e w' ⟨rfl, rfl⟩) | (go_at_call 18; refine (valueColonB_any s j _ _ ?_ ?_).mono ?_; assumption; assumption; rintro e w' ⟨rfl, rfl⟩))
        go_ret
        exact ⟨by rw [HV.out]; rfl, rfl⟩
    by_cases hpj : pos < j
    rotate_left
    · have HV : Hid (stopper s pos fl j = false) := by show stopper s pos fl j = false; rw [HS.out]; simp [hpj]
      have hd : decide (pos < j) = false := decide_eq_false hpj
      clear HS
      rcases hff with rfl | ⟨rfl, hf⟩
      all_goals
        go_enter Try.func22, Try.ntmps22
        go_wp2_with (first | (go_at_call 10; refine (flowB_any _ _).mono ?_; rintro e w' ⟨rfl, rfl⟩) | (go_at_call 18; refine (valueColonB_any s j _ _ ?_ ?_).mono ?_; assumption; assumption; rintro e w' ⟨rfl, rfl⟩))
        go_ret
        exact ⟨by rw [HV.out]; rfl, rfl⟩
    · have HV : Hid (stopper s pos fl j = blank (byt s (j - 1))) := by show stopper s pos fl j = _; rw [HS.out, h35]; simp [hpj]
      have hd : decide (pos < j) = true := decide_eq_true hpj
      have hb1 := byt_eq (show j - 1 < s.size by omega)
      clear HS
      rcases hff with rfl | ⟨rfl, hf⟩
      all_goals
        go_enter Try.func22, Try.ntmps22
        go_wp2_with (first | (go_at_call 10; refine (flowB_any _ _).mono ?_; rintro e w' ⟨rfl, rfl⟩) | (go_at_call 18; refine (valueColonB_any s j _ _ ?_ ?_).mono ?_; assumption; assumption; rintro e w' ⟨rfl, rfl⟩) | (go_at_call 8; refine (blankB_any _ _).mono ?_; rintro e w' ⟨rfl, rfl⟩))
        go_ret
        exact ⟨by rw [HV.out]; rfl, rfl⟩

set_option maxHeartbeats 1000000 in
/-- 'firstStopB' -/
theorem firstStopB_any (s : ByteArray) (pos : Nat) (fl : Bool) (w : World) (hp : pos ≤ s.size) (hs : s.size ≤ 1048576) :
    Calls Try.prog 14 #[.string s, .int .i64 pos, .bool fl] w fun e w' => (∃ t : Nat, e = .returned (.int .i64 t) ∧ FirstStop s pos fl t) ∧ w' = w := by
  go_enter Try.func14, Try.ntmps14
  go_wp2_with fail
  go_loop [7] (fun i => ∃ k : Nat, pos ≤ k ∧ k ≤ s.size ∧ i = .int .i64 k ∧ ∀ j, pos ≤ j → j < k → stopper s pos fl j = false) (fun i => s.size - (intOf i).toNat)
  case atStart => exact ⟨pos, Nat.le_refl _, hp, rfl, fun j h1 h2 => by omega⟩
  case round =>
    obtain ⟨k, hlo, hhi, rfl, hall⟩ := hrel
    have HA : Hid (∀ j, pos ≤ j → j < k → stopper s pos fl j = false) := hall
    clear hall
    by_cases hlt : k < s.size
    rotate_left
    · go_wp2_with fail
      go_ret
      exact ⟨⟨k, rfl, hlo, hhi, HA.out, fun h => absurd h hlt⟩, rfl⟩
    cases hst : stopper s pos fl k with
    | false =>
      go_wp2_with (go_at_call 22; refine (stopperB_any s pos k fl _ ?_ ?_).mono ?_; assumption; assumption; rintro e w' ⟨rfl, rfl⟩)
      go_round
      case rel => exact ⟨k + 1, by omega, by omega, by go_num, fun j h1 h2 => by
        by_cases e : j = k
        · rw [e]; exact hst
        · exact HA.out j h1 (by omega)⟩
      case measure => simp [intOf]; omega
    | true =>
      go_wp2_with (go_at_call 22; refine (stopperB_any s pos k fl _ ?_ ?_).mono ?_; assumption; assumption; rintro e w' ⟨rfl, rfl⟩)
      go_ret
      exact ⟨⟨k, rfl, hlo, hhi, HA.out, fun _ => hst⟩, rfl⟩

set_option maxHeartbeats 1000000 in
/-- 'trimBackB' -/
theorem trimBackB_any (s : ByteArray) (pos t : Nat) (w : World) (hpt : pos ≤ t) (ht : t ≤ s.size) (hs : s.size ≤ 1048576) :
    Calls Try.prog 13 #[.string s, .int .i64 pos, .int .i64 t] w fun e w' => (∃ x : Nat, e = .returned (.int .i64 x) ∧ Trim s pos t x) ∧ w' = w := by
  go_enter Try.func13, Try.ntmps13
  go_wp2_with fail
  go_loop [7] (fun i => ∃ k : Nat, pos ≤ k ∧ k ≤ t ∧ i = .int .i64 k ∧ ∀ j, k ≤ j → j < t → blank (byt s j) = true) (fun i => (intOf i).toNat)
  case atStart => exact ⟨t, hpt, Nat.le_refl _, rfl, fun j h1 h2 => by omega⟩
  case round =>
    obtain ⟨k, hlo, hhi, rfl, hall⟩ := hrel
    have HA : Hid (∀ j, k ≤ j → j < t → blank (byt s j) = true) := hall
    clear hall
    by_cases hlt : pos < k
    rotate_left
    · go_wp2_with fail
      go_ret
      exact ⟨⟨k, rfl, hlo, hhi, HA.out, fun h => absurd h hlt⟩, rfl⟩
    obtain ⟨m, rfl⟩ : ∃ m, k = m + 1 := ⟨k - 1, by omega⟩
    have hb1 := byt_eq (show m < s.size by omega)
    cases hbl : blank (byt s m) with
    | true =>
      go_wp2_with (go_at_call 8; refine (blankB_any _ _).mono ?_; rintro e w' ⟨rfl, rfl⟩)
      go_round
      case rel => exact ⟨m, by omega, by omega, rfl, fun j h1 h2 => by
        by_cases e : j = m
        · rw [e]; exact hbl
        · exact HA.out j (by omega) h2⟩
      case measure => simp [intOf]
    | false =>
      go_wp2_with (go_at_call 8; refine (blankB_any _ _).mono ?_; rintro e w' ⟨rfl, rfl⟩)
      go_ret
      exact ⟨⟨m + 1, rfl, hlo, hhi, HA.out, fun _ => hbl⟩, rfl⟩
end Go.Proofs.Qxb6617432a
