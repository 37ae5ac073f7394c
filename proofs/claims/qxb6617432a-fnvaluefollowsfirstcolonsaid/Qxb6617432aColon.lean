import Derived.Test.Qxb6617432aZZFollows
import Derived.Test.Qxb6617432aGuards
namespace Go.Proofs.Qxb6617432a.fnValueFollowsFirstColon
open Go.RowKit

/-- What follows the colon lets it be a value's. -/
def cond (s : ByteArray) (adj fl : Bool) (k : Nat) : Bool := adj || ends (byt s (k + 1)) || (fl && flow (byt s (k + 1)))

theorem blank58 : blank 58 = false := rfl

theorem skip_is {s : ByteArray} {pos k i : Nat} (hk : pos ≤ k) (hlt : k < s.size) (h58 : byt s k = 58) (hall : ∀ j, pos ≤ j → j < k → blank (byt s j) = true) (h : Skip s pos i) : i = k := by
  obtain ⟨lo, hi, all, stop⟩ := h
  by_cases h1 : i < k
  · have := stop (by omega)
    rw [hall i lo h1] at this
    cases this
  by_cases h2 : k < i
  · have := all k hk h2
    rw [h58, blank58] at this
    cases this
  omega

theorem law_yes {s : ByteArray} {pos k at' : Nat} {adj fl ok : Bool} (hk : pos ≤ k) (hlt : k < s.size) (h58 : byt s k = 58) (hall : ∀ j, pos ≤ j → j < k → blank (byt s j) = true) (hc : cond s adj fl k = true) (h : ZVF s pos adj fl ok at') : ok = true ∧ at' = k := by
  obtain ⟨i, hs, h1, h2⟩ := h
  obtain rfl := skip_is hk hlt h58 hall hs
  have e : colonAt s adj fl i = true := by
    unfold cond at hc
    simp [colonAt, hlt, h58, hc]
  rw [e] at h1 h2
  exact ⟨h1, h2⟩

theorem law_cond {s : ByteArray} {pos k at' : Nat} {adj fl ok : Bool} (hk : pos ≤ k) (hlt : k < s.size) (h58 : byt s k = 58) (hall : ∀ j, pos ≤ j → j < k → blank (byt s j) = true) (hc : cond s adj fl k = false) (h : ZVF s pos adj fl ok at') : ok = false ∧ at' = pos := by
  obtain ⟨i, hs, h1, h2⟩ := h
  obtain rfl := skip_is hk hlt h58 hall hs
  have e : colonAt s adj fl i = false := by
    unfold cond at hc
    unfold colonAt
    rw [hc, Bool.and_false]
  rw [e] at h1 h2
  exact ⟨h1, h2⟩

theorem law_none {s : ByteArray} {pos at' : Nat} {adj fl ok : Bool} (hno : ∀ i, Skip s pos i → i < s.size → byt s i ≠ 58) (h : ZVF s pos adj fl ok at') : ok = false ∧ at' = pos := by
  obtain ⟨i, hs, h1, h2⟩ := h
  have e : colonAt s adj fl i = false := by
    by_cases hi : i < s.size
    · have : (byt s i == 58) = false := by simpa using hno i hs hi
      unfold colonAt
      rw [this]
      simp
    · simp [colonAt, hi]
  rw [e] at h1 h2
  exact ⟨h1, h2⟩

theorem law_blank {s : ByteArray} {pos k at' : Nat} {adj fl ok : Bool} (hno : ∀ j, pos ≤ j → j < k → byt s j ≠ 58) (hex : ∃ j, pos ≤ j ∧ j < k ∧ blank (byt s j) = false) (h : ZVF s pos adj fl ok at') : ok = false ∧ at' = pos := by
  refine law_none (fun i hs hi => ?_) h
  obtain ⟨j, j1, j2, j3⟩ := hex
  by_cases hij : i ≤ j
  · exact hno i hs.lo (by omega)
  · have := hs.all j j1 (by omega)
    rw [j3] at this
    cases this

theorem law_end {s : ByteArray} {pos k at' : Nat} {adj fl ok : Bool} (hk : ¬ k < s.size) (hno : ∀ j, pos ≤ j → j < k → byt s j ≠ 58) (h : ZVF s pos adj fl ok at') : ok = false ∧ at' = pos :=
  law_none (fun i hs hi => hno i hs.lo (by omega)) h

/-- Whether all bytes so far are blanks. -/
def AB (s : ByteArray) (pos q : Nat) (ab : Bool) : Prop := (ab = true → ∀ j, pos ≤ j → j < q → blank (byt s j) = true) ∧ (ab = false → ∃ j, pos ≤ j ∧ j < q ∧ blank (byt s j) = false)
theorem AB.start (s : ByteArray) (pos : Nat) : AB s pos pos true := ⟨fun _ j h1 h2 => by omega, fun h => by cases h⟩
theorem AB.keep {s : ByteArray} {pos q : Nat} {ab : Bool} (h : AB s pos q ab) (hb : blank (byt s q) = true) : AB s pos (q + 1) ab :=
  ⟨fun e => all_snoc (h.1 e) hb, fun e => by obtain ⟨j, j1, j2, j3⟩ := h.2 e; exact ⟨j, j1, by omega, j3⟩⟩
theorem AB.drop {s : ByteArray} {pos q : Nat} (hq : pos ≤ q) (hb : blank (byt s q) = false) : AB s pos (q + 1) false :=
  ⟨fun e => (by cases e), fun _ => ⟨q, hq, by omega, hb⟩⟩

theorem no_snoc {s : ByteArray} {pos k : Nat} (h : ∀ j, pos ≤ j → j < k → byt s j ≠ 58) (hk : (byt s k == 58) = false) : ∀ j, pos ≤ j → j < k + 1 → byt s j ≠ 58 := by
  intro j h1 h2
  by_cases e : j = k
  · rw [e]; simpa using hk
  · exact h j h1 (by omega)

set_option maxHeartbeats 2000000 in
theorem walk (s : ByteArray) (a1 : Int) (adj fl : Bool) (w : World) :
    Calls Try.prog 3 #[.string s, .int .i64 a1, .bool adj, .bool fl] w fun e w' => e = .returned (.bool true) ∧ Below w.heap.size w w' := by
  by_cases hs : s.size ≤ 1048576
  rotate_left
  · go_enter Try.func3, Try.ntmps3
    go_wp2_with (go_at_call 7; refine (guardVF_no s a1 adj fl _ (by omega)).mono ?_; rintro e w' ⟨rfl, rfl⟩)
    go_ret
    exact ⟨rfl, Below.refl _ _⟩
  go_enter Try.func3, Try.ntmps3
  go_wp2_with fail
  refine (guardVF_yes s a1 adj fl w hs).mono ?_
  rintro e w' ⟨rfl, hw⟩
  subst hw
  by_cases h64 : s.size ≤ 65536
  rotate_left
  · go_wp2_with fail
    go_ret
    exact ⟨rfl, Below.refl _ _⟩
  by_cases hneg : a1 < 0
  · go_wp2_with fail
    go_ret
    exact ⟨rfl, Below.refl _ _⟩
  by_cases hbig : (s.size : Int) < a1
  · go_wp2_with fail
    go_ret
    exact ⟨rfl, Below.refl _ _⟩
  obtain ⟨pos, rfl⟩ : ∃ pos : Nat, a1 = (pos : Int) := ⟨a1.toNat, by omega⟩
  have hp : pos ≤ s.size := by omega
  clear hneg hbig
  go_wp2_with fail
  go_loop [9] (fun c => ∃ k : Nat, pos ≤ k ∧ k ≤ s.size ∧ c = .int .i64 k ∧ ∀ j, pos ≤ j → j < k → byt s j ≠ 58) (fun c => s.size - (intOf c).toNat)
  case atStart => exact ⟨pos, Nat.le_refl _, hp, rfl, fun j h1 h2 => by omega⟩
  case round =>
    obtain ⟨k, hlo, hhi, rfl, hno⟩ := hrel
    have HN : Hid (∀ j, pos ≤ j → j < k → byt s j ≠ 58) := hno
    clear hno
    by_cases hlt : k < s.size
    · have hbk := byt_eq hlt
      by_cases h58 : (byt s k == 58) = true
      rotate_left
      · have h58' : (byt s k == 58) = false := by simpa using h58
        clear h58
        go_wp2_with fail
        go_round
        case rel => exact ⟨k + 1, by omega, by omega, by go_num, no_snoc HN.out h58'⟩
        case measure => simp [intOf]; omega
      · have H58 : Hid (byt s k = 58) := by show byt s k = 58; simpa using h58
        go_wp2_with fail
        go_loop [12, 13] (fun v j => ∃ q : Nat, pos ≤ q ∧ q ≤ k ∧ j = .int .i64 q ∧ ∃ ab, v = .bool ab ∧ AB s pos q ab) (fun _ j => k - (intOf j).toNat)
        case atStart => exact ⟨pos, Nat.le_refl _, hlo, rfl, true, rfl, AB.start s pos⟩
        case round =>
          obtain ⟨q, qlo, qhi, rfl, ab, rfl, hab⟩ := hrel
          have HAB : Hid (AB s pos q ab) := hab
          clear hab
          by_cases hq : q < k
          · have hbq := byt_eq (show q < s.size by omega)
            cases hbl : blank (byt s q) with
            | true =>
              go_wp2_with (go_at_call 8; refine (blankB_any _ _).mono ?_; rintro e w' ⟨rfl, rfl⟩)
              go_round
              case rel => exact ⟨q + 1, by omega, by omega, by go_num, ab, rfl, AB.keep HAB.out hbl⟩
              case measure => simp [intOf]; omega
            | false =>
              go_wp2_with (go_at_call 8; refine (blankB_any _ _).mono ?_; rintro e w' ⟨rfl, rfl⟩)
              go_round
              case rel => exact ⟨q + 1, by omega, by omega, by go_num, false, rfl, AB.drop qlo hbl⟩
              case measure => simp [intOf]; omega
          · have hqk : q = k := by omega
            have HAK : Hid (AB s pos k ab) := by rw [hqk] at HAB; exact HAB
            clear HAB hqk
            by_cases hnx : k + 1 < s.size
            · have hb1 := byt_eq hnx
              cases ab with
              | false =>
                go_wp2_with (first | (go_at_call 9; refine (endsB_any _ _).mono ?_; rintro e w' ⟨rfl, rfl⟩) | (go_at_call 10; refine (flowB_any _ _).mono ?_; rintro e w' ⟨rfl, rfl⟩))
                refine (zzFollows_any s pos _ _ _ hp hs).mono ?_
                rintro e w1 ⟨ok, at', rfl, hz, hb⟩
                obtain ⟨rfl, rfl⟩ := law_blank HN.out (HAK.out.2 rfl) hz
                go_wp2_with fail
                go_ret
                exact ⟨rfl, hb⟩
              | true =>
                cases adj with
                | true =>
                  go_wp2_with (first | (go_at_call 9; refine (endsB_any _ _).mono ?_; rintro e w' ⟨rfl, rfl⟩) | (go_at_call 10; refine (flowB_any _ _).mono ?_; rintro e w' ⟨rfl, rfl⟩))
                  refine (zzFollows_any s pos _ _ _ hp hs).mono ?_
                  rintro e w1 ⟨ok, at', rfl, hz, hb⟩
                  obtain ⟨rfl, rfl⟩ := law_yes hlo hlt H58.out (HAK.out.1 rfl) (by simp [cond, ]) hz
                  go_wp2_with fail
                  go_ret
                  exact ⟨rfl, hb⟩
                | false =>
                  cases he : ends (byt s (k + 1)) with
                  | true =>
                    go_wp2_with (first | (go_at_call 9; refine (endsB_any _ _).mono ?_; rintro e w' ⟨rfl, rfl⟩) | (go_at_call 10; refine (flowB_any _ _).mono ?_; rintro e w' ⟨rfl, rfl⟩))
                    refine (zzFollows_any s pos _ _ _ hp hs).mono ?_
                    rintro e w1 ⟨ok, at', rfl, hz, hb⟩
                    obtain ⟨rfl, rfl⟩ := law_yes hlo hlt H58.out (HAK.out.1 rfl) (by simp [cond, he]) hz
                    go_wp2_with fail
                    go_ret
                    exact ⟨rfl, hb⟩
                  | false =>
                    cases fl with
                    | false =>
                      go_wp2_with (first | (go_at_call 9; refine (endsB_any _ _).mono ?_; rintro e w' ⟨rfl, rfl⟩) | (go_at_call 10; refine (flowB_any _ _).mono ?_; rintro e w' ⟨rfl, rfl⟩))
                      refine (zzFollows_any s pos _ _ _ hp hs).mono ?_
                      rintro e w1 ⟨ok, at', rfl, hz, hb⟩
                      obtain ⟨rfl, rfl⟩ := law_cond hlo hlt H58.out (HAK.out.1 rfl) (by simp [cond, he]) hz
                      go_wp2_with fail
                      go_ret
                      exact ⟨rfl, hb⟩
                    | true =>
                      cases hf : flow (byt s (k + 1)) with
                      | true =>
                        go_wp2_with (first | (go_at_call 9; refine (endsB_any _ _).mono ?_; rintro e w' ⟨rfl, rfl⟩) | (go_at_call 10; refine (flowB_any _ _).mono ?_; rintro e w' ⟨rfl, rfl⟩))
                        refine (zzFollows_any s pos _ _ _ hp hs).mono ?_
                        rintro e w1 ⟨ok, at', rfl, hz, hb⟩
                        obtain ⟨rfl, rfl⟩ := law_yes hlo hlt H58.out (HAK.out.1 rfl) (by simp [cond, he, hf]) hz
                        go_wp2_with fail
                        go_ret
                        exact ⟨rfl, hb⟩
                      | false =>
                        go_wp2_with (first | (go_at_call 9; refine (endsB_any _ _).mono ?_; rintro e w' ⟨rfl, rfl⟩) | (go_at_call 10; refine (flowB_any _ _).mono ?_; rintro e w' ⟨rfl, rfl⟩))
                        refine (zzFollows_any s pos _ _ _ hp hs).mono ?_
                        rintro e w1 ⟨ok, at', rfl, hz, hb⟩
                        obtain ⟨rfl, rfl⟩ := law_cond hlo hlt H58.out (HAK.out.1 rfl) (by simp [cond, he, hf]) hz
                        go_wp2_with fail
                        go_ret
                        exact ⟨rfl, hb⟩
            · have HE : Hid (byt s (k + 1) = 0) := byt_end hnx
              cases ab with
              | false =>
                go_wp2_with (first | (go_at_call 9; refine (endsB_any _ _).mono ?_; rintro e w' ⟨rfl, rfl⟩) | (go_at_call 10; refine (flowB_any _ _).mono ?_; rintro e w' ⟨rfl, rfl⟩))
                refine (zzFollows_any s pos _ _ _ hp hs).mono ?_
                rintro e w1 ⟨ok, at', rfl, hz, hb⟩
                obtain ⟨rfl, rfl⟩ := law_blank HN.out (HAK.out.2 rfl) hz
                go_wp2_with fail
                go_ret
                exact ⟨rfl, hb⟩
              | true =>
                cases adj with
                | true =>
                  go_wp2_with (first | (go_at_call 9; refine (endsB_any _ _).mono ?_; rintro e w' ⟨rfl, rfl⟩) | (go_at_call 10; refine (flowB_any _ _).mono ?_; rintro e w' ⟨rfl, rfl⟩))
                  refine (zzFollows_any s pos _ _ _ hp hs).mono ?_
                  rintro e w1 ⟨ok, at', rfl, hz, hb⟩
                  obtain ⟨rfl, rfl⟩ := law_yes hlo hlt H58.out (HAK.out.1 rfl) (by simp [cond, ]) hz
                  go_wp2_with fail
                  go_ret
                  exact ⟨rfl, hb⟩
                | false =>
                  have he : ends 0 = true := rfl
                  go_wp2_with (first | (go_at_call 9; refine (endsB_any _ _).mono ?_; rintro e w' ⟨rfl, rfl⟩) | (go_at_call 10; refine (flowB_any _ _).mono ?_; rintro e w' ⟨rfl, rfl⟩))
                  refine (zzFollows_any s pos _ _ _ hp hs).mono ?_
                  rintro e w1 ⟨ok, at', rfl, hz, hb⟩
                  obtain ⟨rfl, rfl⟩ := law_yes hlo hlt H58.out (HAK.out.1 rfl) (by simp [cond, HE.out, he]) hz
                  go_wp2_with fail
                  go_ret
                  exact ⟨rfl, hb⟩
    · go_wp2_with fail
      refine (zzFollows_any s pos _ _ _ hp hs).mono ?_
      rintro e w1 ⟨ok, at', rfl, hz, hb⟩
      obtain ⟨rfl, rfl⟩ := law_end hlt HN.out hz
      go_wp2_with fail
      go_ret
      exact ⟨rfl, hb⟩
end Go.Proofs.Qxb6617432a.fnValueFollowsFirstColon
