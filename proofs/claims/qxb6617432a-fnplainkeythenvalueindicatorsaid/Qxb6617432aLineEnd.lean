import Derived.Test.Qxb6617432aStops
namespace Go.Proofs.Qxb6617432a
open Go.RowKit

/-- How 'plainLineEnd' ends. -/
def PLEnd (s : ByteArray) (pos : Nat) (fl : Bool) (e : Ending) : Prop := ∃ x : Nat, e = .returned (.int .i64 x) ∧ PLE s pos fl x

theorem vcol_inside {s : ByteArray} {k : Nat} {f : Bool} (h58 : (byt s k == 58) = true) : vcol s k f = !goes (byt s (k + 1)) f := by simp [vcol, h58]

set_option maxRecDepth 10000 in
set_option maxHeartbeats 4000000 in
/-- 'plainLineEnd' -/
theorem plainLineEnd_any (s : ByteArray) (pos : Nat) (fl : Bool) (b : Nat) (w : World) (hp : pos ≤ s.size) (hs : s.size ≤ 1048576)
    (c0 : w.cell? ⟨b, 0, none⟩ = some (.string s)) (c1 : w.cell? ⟨b, 1, none⟩ = some (.int .i64 pos)) :
    Calls Try.prog 23 #[.pointer (some ⟨b, 0, none⟩), .bool fl] w fun e w' => PLEnd s pos fl e ∧ w' = w := by
  go_enter Try.func23, Try.ntmps23
  go_wp2_with fail
  go_loop [5, 6] (fun x i => ∃ e k : Nat, x = .int .i64 e ∧ i = .int .i64 k ∧ Inv s pos fl e k) (fun _ i => s.size - (intOf i).toNat)
  case atStart => exact ⟨pos, pos, rfl, rfl, Inv.start hp⟩
  case round =>
    obtain ⟨e, k, rfl, rfl, hI⟩ := hrel
    have i1 := hI.lo
    have i2 := hI.mid
    have i3 := hI.hi
    by_cases hlt : k < s.size
    rotate_left
    · have HP : PLE s pos fl e := hI.here (fun h => absurd h hlt)
      clear hI
      go_wp2_with fail
      go_ret
      exact ⟨⟨e, rfl, HP⟩, rfl⟩
    have hbk := byt_eq hlt
    by_cases h10 : (byt s k == 10) = true
    · have HP : PLE s pos fl e := hI.here (fun _ => stop_nl h10)
      clear hI
      go_wp2_with (first | (go_at_call 26; refine (isBlank_any _ _).mono ?_; rintro e w' ⟨rfl, rfl⟩) | (go_at_call 28; refine (isFlow_any _ _).mono ?_; rintro e w' ⟨rfl, rfl⟩) | (go_at_call 29; refine (plainSafe_any _ _ _).mono ?_; rintro e w' ⟨rfl, rfl⟩))
      go_ret
      exact ⟨⟨e, rfl, HP⟩, rfl⟩
    have h10' : (byt s k == 10) = false := by simpa using h10
    clear h10
    have hff : (fl = true ∧ flow (byt s k) = true) ∨ (fl = false ∨ fl = true ∧ flow (byt s k) = false) := by
      cases fl with
      | false => exact .inr (.inl rfl)
      | true =>
        cases hf : flow (byt s k) with
        | true => exact .inl ⟨rfl, rfl⟩
        | false => exact .inr (.inr ⟨rfl, rfl⟩)
    rcases hff with ⟨rfl, hf⟩ | hff
    · have HP : PLE s pos true e := hI.here (fun _ => stop_flow hf)
      clear hI
      go_wp2_with (first | (go_at_call 26; refine (isBlank_any _ _).mono ?_; rintro e w' ⟨rfl, rfl⟩) | (go_at_call 28; refine (isFlow_any _ _).mono ?_; rintro e w' ⟨rfl, rfl⟩) | (go_at_call 29; refine (plainSafe_any _ _ _).mono ?_; rintro e w' ⟨rfl, rfl⟩))
      go_ret
      exact ⟨⟨e, rfl, HP⟩, rfl⟩
    have HFF : Hid ((fl && flow (byt s k)) = false) := by
      show (fl && flow (byt s k)) = false
      rcases hff with rfl | ⟨rfl, h⟩
      · rfl
      · rw [h]; rfl
    cases hbl : blank (byt s k) with
    | true =>
      have HI : Hid (Inv s pos fl e k) := hI
      clear hI
      rcases hff with rfl | ⟨rfl, hf⟩
      all_goals
        go_wp2_with (first | (go_at_call 26; refine (isBlank_any _ _).mono ?_; rintro e w' ⟨rfl, rfl⟩) | (go_at_call 28; refine (isFlow_any _ _).mono ?_; rintro e w' ⟨rfl, rfl⟩) | (go_at_call 29; refine (plainSafe_any _ _ _).mono ?_; rintro e w' ⟨rfl, rfl⟩))
        clear h10' HFF
        go_loop [6] (fun i => ∃ m : Nat, k ≤ m ∧ m ≤ s.size ∧ i = .int .i64 m ∧ ∀ j, k ≤ j → j < m → blank (byt s j) = true) (fun i => s.size - (intOf i).toNat)
        case atStart => exact ⟨k, Nat.le_refl _, by omega, rfl, fun j h1 h2 => by omega⟩
        case round =>
          obtain ⟨m, m1, m2, rfl, hall⟩ := hrel
          have HA : Hid (∀ j, k ≤ j → j < m → blank (byt s j) = true) := hall
          clear hall
          by_cases hm : m < s.size
          rotate_left
          · have hkm : k < m := by omega
            have HN := HI.out.blanks m1 m2 HA.out (fun h => absurd h hm)
            clear HI HA
            go_wp2_with fail
            go_round
            case rel => exact ⟨e, m, rfl, rfl, HN⟩
            case measure => simp [intOf]; omega
          have hbm := byt_eq hm
          cases hbm' : blank (byt s m) with
          | true =>
            go_wp2_with (first | (go_at_call 26; refine (isBlank_any _ _).mono ?_; rintro e w' ⟨rfl, rfl⟩) | (go_at_call 28; refine (isFlow_any _ _).mono ?_; rintro e w' ⟨rfl, rfl⟩) | (go_at_call 29; refine (plainSafe_any _ _ _).mono ?_; rintro e w' ⟨rfl, rfl⟩))
            go_round
            case rel => exact ⟨m + 1, by omega, by omega, by go_num, all_snoc HA.out hbm'⟩
            case measure => simp [intOf]; omega
          | false =>
            have hkm : k < m := by
              by_cases c : k = m
              · subst c
                rw [hbl] at hbm'
                cases hbm'
              · omega
            by_cases h35 : (byt s m == 35) = true
            · have HP := HI.out.comment hkm hm HA.out (by simpa using h35)
              clear HI HA
              go_wp2_with (first | (go_at_call 26; refine (isBlank_any _ _).mono ?_; rintro e w' ⟨rfl, rfl⟩) | (go_at_call 28; refine (isFlow_any _ _).mono ?_; rintro e w' ⟨rfl, rfl⟩) | (go_at_call 29; refine (plainSafe_any _ _ _).mono ?_; rintro e w' ⟨rfl, rfl⟩))
              go_ret
              exact ⟨⟨e, rfl, HP⟩, rfl⟩
            · have h35' : (byt s m == 35) = false := by simpa using h35
              have HN := HI.out.blanks m1 m2 HA.out (fun _ => by simpa using h35)
              clear HI HA h35
              go_wp2_with (first | (go_at_call 26; refine (isBlank_any _ _).mono ?_; rintro e w' ⟨rfl, rfl⟩) | (go_at_call 28; refine (isFlow_any _ _).mono ?_; rintro e w' ⟨rfl, rfl⟩) | (go_at_call 29; refine (plainSafe_any _ _ _).mono ?_; rintro e w' ⟨rfl, rfl⟩))
              go_round
              case rel => exact ⟨e, m, rfl, rfl, HN⟩
              case measure => simp [intOf]; omega
    | false =>
      by_cases h58 : (byt s k == 58) = true
      · by_cases hnx : k + 1 < s.size
        · have hb1 := byt_eq hnx
          have hne1 : ((k : Int) + 1 == (s.size : Int)) = false := by simp; omega
          cases hg : goes (byt s (k + 1)) fl with
          | true =>
            have HN : Inv s pos fl (k + 1) (k + 1) := hI.step hlt h10' HFF.out hbl (by rw [vcol_inside h58, hg]; rfl)
            clear hI
            rcases hff with rfl | ⟨rfl, hf⟩
            all_goals
              go_wp2_with (first | (go_at_call 26; refine (isBlank_any _ _).mono ?_; rintro e w' ⟨rfl, rfl⟩) | (go_at_call 28; refine (isFlow_any _ _).mono ?_; rintro e w' ⟨rfl, rfl⟩) | (go_at_call 29; refine (plainSafe_any _ _ _).mono ?_; rintro e w' ⟨rfl, rfl⟩))
              go_round
              case rel => exact ⟨k + 1, k + 1, by go_num, by go_num, HN⟩
              case measure => simp [intOf]; omega
          | false =>
            have HP : PLE s pos fl e := hI.here (fun _ => stop_col (by rw [vcol_inside h58, hg]; rfl))
            clear hI
            rcases hff with rfl | ⟨rfl, hf⟩
            all_goals
              go_wp2_with (first | (go_at_call 26; refine (isBlank_any _ _).mono ?_; rintro e w' ⟨rfl, rfl⟩) | (go_at_call 28; refine (isFlow_any _ _).mono ?_; rintro e w' ⟨rfl, rfl⟩) | (go_at_call 29; refine (plainSafe_any _ _ _).mono ?_; rintro e w' ⟨rfl, rfl⟩))
              go_ret
              exact ⟨⟨e, rfl, HP⟩, rfl⟩
        · have he1 : ((k : Int) + 1 == (s.size : Int)) = true := by simp; omega
          have HP : PLE s pos fl e := hI.here (fun _ => stop_col (by rw [vcol_inside h58, byt_end hnx, goes0]; rfl))
          clear hI
          rcases hff with rfl | ⟨rfl, hf⟩
          all_goals
            go_wp2_with (first | (go_at_call 26; refine (isBlank_any _ _).mono ?_; rintro e w' ⟨rfl, rfl⟩) | (go_at_call 28; refine (isFlow_any _ _).mono ?_; rintro e w' ⟨rfl, rfl⟩) | (go_at_call 29; refine (plainSafe_any _ _ _).mono ?_; rintro e w' ⟨rfl, rfl⟩))
            go_ret
            exact ⟨⟨e, rfl, HP⟩, rfl⟩
      · have h58' : (byt s k == 58) = false := by simpa using h58
        have HN : Inv s pos fl (k + 1) (k + 1) := hI.step hlt h10' HFF.out hbl (by simp [vcol, h58'])
        clear hI h58
        rcases hff with rfl | ⟨rfl, hf⟩
        all_goals
          go_wp2_with (first | (go_at_call 26; refine (isBlank_any _ _).mono ?_; rintro e w' ⟨rfl, rfl⟩) | (go_at_call 28; refine (isFlow_any _ _).mono ?_; rintro e w' ⟨rfl, rfl⟩) | (go_at_call 29; refine (plainSafe_any _ _ _).mono ?_; rintro e w' ⟨rfl, rfl⟩))
          go_round
          case rel => exact ⟨k + 1, k + 1, by go_num, by go_num, HN⟩
          case measure => simp [intOf]; omega
end Go.Proofs.Qxb6617432a
