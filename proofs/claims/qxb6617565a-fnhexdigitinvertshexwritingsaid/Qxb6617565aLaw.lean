import Derived.Test.Qxb6617565aHex
namespace Go.Proofs.Qxb6617565a
open Go.RowKit

/-- 'ZZhexDigit' -/
theorem zzhex_any (c : Int) (w : World) (h0 : 0 ≤ c) (h1 : c ≤ 255) : Calls Try.prog 4 #[.int .u8 c] w fun e w' => e = .returned (.tuple #[.int .i32 (hexV c), .bool (hexOk c)]) ∧ w' = w := by
  go_enter Try.func4, Try.ntmps4
  go_wp2_with (go_at_call 7; refine (hexDigit_any _ _ ?_ ?_).mono ?_; assumption; assumption; rintro e w' ⟨rfl, rfl⟩)
  go_ret2
  exact ⟨rfl, rfl⟩

/-- How digit d is written. -/
def low (d : Nat) : Int := if d < 10 then 48 + (d : Int) else 87 + (d : Int)
def upp (d : Nat) : Int := if d < 10 then 48 + (d : Int) else 55 + (d : Int)

theorem lower_any (d : Nat) (w : World) (hd : d < 16) : Calls Try.prog 5 #[.int .i64 d] w fun e w' => e = .returned (.int .u8 (low d)) ∧ w' = w := by
  by_cases h : d < 10
  · go_enter Try.func5, Try.ntmps5
    go_wp2
    go_ret
    exact ⟨ret1 (by unfold low; rw [if_pos h]), rfl⟩
  · go_enter Try.func5, Try.ntmps5
    go_wp2
    go_ret
    exact ⟨ret1 (by unfold low; rw [if_neg (by omega)]; omega), rfl⟩
theorem upper_any (d : Nat) (w : World) (hd : d < 16) : Calls Try.prog 6 #[.int .i64 d] w fun e w' => e = .returned (.int .u8 (upp d)) ∧ w' = w := by
  by_cases h : d < 10
  · go_enter Try.func6, Try.ntmps6
    go_wp2
    go_ret
    exact ⟨ret1 (by unfold upp; rw [if_pos h]), rfl⟩
  · go_enter Try.func6, Try.ntmps6
    go_wp2
    go_ret
    exact ⟨ret1 (by unfold upp; rw [if_neg (by omega)]; omega), rfl⟩

/-- What the search has found behind k rounds. -/
def found (c : Int) (k : Nat) : Bool := hexOk c && decide (hexV c < (k : Int))
def want (c : Int) (k : Nat) : Int := if found c k then hexV c else 0

theorem hex_bounds {c : Int} : 0 ≤ hexV c ∧ hexV c < 16 := by
  unfold hexV
  split
  · omega
  split
  · omega
  split <;> omega

theorem found_end (c : Int) : found c 16 = hexOk c := by
  have := (hex_bounds (c := c)).2
  have e : decide (hexV c < ((16 : Nat) : Int)) = true := decide_eq_true (by omega)
  unfold found
  rw [e, Bool.and_true]
theorem want_end (c : Int) : want c 16 = hexV c := by
  unfold want
  rw [found_end]
  by_cases h : hexOk c = true
  · rw [if_pos h]
  · rw [if_neg h]
    unfold hexOk at h
    have h' : ¬ ((48 ≤ c ∧ c ≤ 57) ∨ (97 ≤ c ∧ c ≤ 102) ∨ (65 ≤ c ∧ c ≤ 70)) := by simpa using h
    unfold hexV
    rw [if_neg (fun g => h' (.inl g)), if_neg (fun g => h' (.inr (.inl g))), if_neg (fun g => h' (.inr (.inr g)))]

theorem found_zero (c : Int) : found c 0 = false := by
  have := (hex_bounds (c := c)).1
  have e : decide (hexV c < ((0 : Nat) : Int)) = false := decide_eq_false (by omega)
  unfold found
  rw [e, Bool.and_false]

/-- Digit k is written so: it is c's digit. -/
theorem hit {c : Int} {k : Nat} (hk : k < 16) (h : c = low k ∨ c = upp k) : hexOk c = true ∧ hexV c = (k : Int) := by
  unfold low upp at h
  by_cases h10 : k < 10
  · rw [if_pos h10, if_pos h10] at h
    have a : 48 ≤ c ∧ c ≤ 57 := by omega
    exact ⟨by unfold hexOk; exact decide_eq_true (.inl a), by unfold hexV; rw [if_pos a]; omega⟩
  · rw [if_neg h10, if_neg h10] at h
    rcases h with h | h
    · have a : ¬ (48 ≤ c ∧ c ≤ 57) := by omega
      have b : 97 ≤ c ∧ c ≤ 102 := by omega
      exact ⟨by unfold hexOk; exact decide_eq_true (.inr (.inl b)), by unfold hexV; rw [if_neg a, if_pos b]; omega⟩
    · have a : ¬ (48 ≤ c ∧ c ≤ 57) := by omega
      have b : ¬ (97 ≤ c ∧ c ≤ 102) := by omega
      have d : 65 ≤ c ∧ c ≤ 70 := by omega
      exact ⟨by unfold hexOk; exact decide_eq_true (.inr (.inr d)), by unfold hexV; rw [if_neg a, if_neg b, if_pos d]; omega⟩

/-- Digit k is written otherwise: it is not c's digit. -/
theorem miss {c : Int} {k : Nat} (h1 : c ≠ low k) (h2 : c ≠ upp k) : ¬ (hexOk c = true ∧ hexV c = (k : Int)) := by
  rintro ⟨ho, hv⟩
  unfold hexOk at ho
  have ho' : (48 ≤ c ∧ c ≤ 57) ∨ (97 ≤ c ∧ c ≤ 102) ∨ (65 ≤ c ∧ c ≤ 70) := by simpa using ho
  unfold low at h1
  unfold upp at h2
  unfold hexV at hv
  rcases ho' with a | a | a
  · rw [if_pos a] at hv
    rw [if_pos (by omega)] at h1
    omega
  · rw [if_neg (by omega), if_pos a] at hv
    rw [if_neg (by omega)] at h1
    omega
  · rw [if_neg (by omega), if_neg (by omega), if_pos a] at hv
    rw [if_neg (by omega)] at h2
    omega

theorem found_hit {c : Int} {k : Nat} (h : hexOk c = true ∧ hexV c = (k : Int)) : found c (k + 1) = true ∧ want c (k + 1) = (k : Int) := by
  have e : found c (k + 1) = true := by
    have : decide (hexV c < ((k + 1 : Nat) : Int)) = true := decide_eq_true (by omega)
    unfold found
    rw [h.1, this]
    rfl
  exact ⟨e, by unfold want; rw [if_pos e]; exact h.2⟩
theorem found_miss {c : Int} {k : Nat} (h : ¬ (hexOk c = true ∧ hexV c = (k : Int))) : found c (k + 1) = found c k ∧ want c (k + 1) = want c k := by
  have e : found c (k + 1) = found c k := by
    unfold found
    cases ho : hexOk c with
    | false => rfl
    | true =>
      have : hexV c ≠ (k : Int) := fun g => h ⟨ho, g⟩
      simp only [Bool.true_and]
      rw [decide_eq_decide]
      omega
  exact ⟨e, by unfold want; rw [e]⟩

theorem flips : ∀ n : Fin 128, (65 ≤ n.val → n.val ≤ 90 → bits BinOp.xor IntKind.u8 (n.val : Int) 32 = (n.val : Int) + 32) ∧ (97 ≤ n.val → n.val ≤ 122 → bits BinOp.xor IntKind.u8 (n.val : Int) 32 = (n.val : Int) - 32) := by decide +kernel
theorem flip_up {c : Int} (h1 : 65 ≤ c) (h2 : c ≤ 90) : bits BinOp.xor IntKind.u8 c 32 = c + 32 := by
  have := (flips ⟨c.toNat, by omega⟩).1 (by show 65 ≤ c.toNat; omega) (by show c.toNat ≤ 90; omega)
  simp only at this
  rwa [show ((c.toNat : Nat) : Int) = c by omega] at this
theorem flip_low {c : Int} (h1 : 97 ≤ c) (h2 : c ≤ 122) : bits BinOp.xor IntKind.u8 c 32 = c - 32 := by
  have := (flips ⟨c.toNat, by omega⟩).2 (by show 97 ≤ c.toNat; omega) (by show c.toNat ≤ 122; omega)
  simp only at this
  rwa [show ((c.toNat : Nat) : Int) = c by omega] at this

theorem same_up {c : Int} (h1 : 65 ≤ c) (h2 : c ≤ 90) : hexV (c + 32) = hexV c ∧ hexOk (c + 32) = hexOk c := by
  have n1 : ¬ (48 ≤ c ∧ c ≤ 57) := by omega
  have n2 : ¬ (97 ≤ c ∧ c ≤ 102) := by omega
  have m1 : ¬ (48 ≤ c + 32 ∧ c + 32 ≤ 57) := by omega
  have m3 : ¬ (65 ≤ c + 32 ∧ c + 32 ≤ 70) := by omega
  constructor
  · unfold hexV
    rw [if_neg n1, if_neg n2, if_neg m1]
    by_cases h : 65 ≤ c ∧ c ≤ 70
    · rw [if_pos h, if_pos (by omega)]; omega
    · rw [if_neg h, if_neg (by omega), if_neg m3]
  · unfold hexOk
    rw [decide_eq_decide]
    omega
theorem same_low {c : Int} (h1 : 97 ≤ c) (h2 : c ≤ 122) : hexV (c - 32) = hexV c ∧ hexOk (c - 32) = hexOk c := by
  have := same_up (c := c - 32) (by omega) (by omega)
  rw [show c - 32 + 32 = c by omega] at this
  exact ⟨this.1.symm, this.2.symm⟩

set_option maxHeartbeats 1000000 in
theorem walk (c : Int) (h0 : 0 ≤ c) (h1 : c ≤ 255) (w : World) :
    Calls Try.prog 3 #[.int .u8 c] w fun e w' => e = .returned (.bool true) ∧ w' = w := by
  go_enter Try.func3, Try.ntmps3
  go_wp2_with (go_at_call 4; refine (zzhex_any _ _ ?_ ?_).mono ?_; assumption; assumption; rintro e w' ⟨rfl, rfl⟩)
  go_loop [5, 6, 7] (fun x f d => ∃ k : Nat, k ≤ 16 ∧ d = .int .i64 k ∧ f = .bool (found c k) ∧ x = .int .i32 (want c k)) (fun _ _ d => 16 - (intOf d).toNat)
  case atStart => exact ⟨0, by omega, rfl, by rw [found_zero], by unfold want; rw [found_zero]; rfl⟩
  case round =>
    obtain ⟨k, hk, rfl, rfl, rfl⟩ := hrel
    by_cases hlt : k < 16
    · by_cases hl : (low k == c) = true
      · have HH : Hid (hexOk c = true ∧ hexV c = (k : Int)) := hit hlt (.inl (eq_of_beq hl).symm)
        go_wp2_with (first | (go_at_call 5; refine (lower_any _ _ ?_).mono ?_; assumption; rintro e w' ⟨rfl, rfl⟩) | (go_at_call 6; refine (upper_any _ _ ?_).mono ?_; assumption; rintro e w' ⟨rfl, rfl⟩))
        go_round
        case rel => exact ⟨k + 1, by omega, by go_num, by rw [(found_hit HH.out).1], by rw [(found_hit HH.out).2]⟩
        case measure => simp [intOf]; omega
      have hl' : (low k == c) = false := by simpa using hl
      have HL : Hid (c ≠ low k) := by
        show c ≠ low k
        have : ¬ low k = c := by simpa using hl
        exact fun g => this g.symm
      clear hl
      by_cases hu : (upp k == c) = true
      · have HH : Hid (hexOk c = true ∧ hexV c = (k : Int)) := hit hlt (.inr (eq_of_beq hu).symm)
        go_wp2_with (first | (go_at_call 5; refine (lower_any _ _ ?_).mono ?_; assumption; rintro e w' ⟨rfl, rfl⟩) | (go_at_call 6; refine (upper_any _ _ ?_).mono ?_; assumption; rintro e w' ⟨rfl, rfl⟩))
        go_round
        case rel => exact ⟨k + 1, by omega, by go_num, by rw [(found_hit HH.out).1], by rw [(found_hit HH.out).2]⟩
        case measure => simp [intOf]; omega
      have hu' : (upp k == c) = false := by simpa using hu
      have HM : Hid (¬ (hexOk c = true ∧ hexV c = (k : Int))) := miss HL.out (by
        have : ¬ upp k = c := by simpa using hu
        exact fun g => this g.symm)
      clear hu
      go_wp2_with (first | (go_at_call 5; refine (lower_any _ _ ?_).mono ?_; assumption; rintro e w' ⟨rfl, rfl⟩) | (go_at_call 6; refine (upper_any _ _ ?_).mono ?_; assumption; rintro e w' ⟨rfl, rfl⟩))
      go_round
      case rel => exact ⟨k + 1, by omega, by go_num, by rw [(found_miss HM.out).1], by rw [(found_miss HM.out).2]⟩
      case measure => simp [intOf]; omega
    · have h16 : k = 16 := by omega
      subst h16
      rw [found_end, want_end]
      clear hk hlt
      by_cases hA : 65 ≤ c ∧ c ≤ 90
      · obtain ⟨a1, a2⟩ := hA
        have f := flip_up a1 a2
        obtain ⟨g1, g2⟩ := same_up a1 a2
        have G1 : Hid (hexV (c + 32) = hexV c) := g1
        have G2 : Hid (hexOk (c + 32) = hexOk c) := g2
        clear g1 g2
        go_wp2_with fail
        refine (zzhex_any _ _ ?_ ?_).mono ?_
        · omega
        · omega
        rintro e w1 ⟨rfl, hw⟩
        subst hw
        rw [G1.out, G2.out]
        go_wp2_with fail
        go_ret
        exact ⟨rfl, rfl⟩
      by_cases hB : 97 ≤ c ∧ c ≤ 122
      · obtain ⟨a1, a2⟩ := hB
        have f := flip_low a1 a2
        obtain ⟨g1, g2⟩ := same_low a1 a2
        have G1 : Hid (hexV (c - 32) = hexV c) := g1
        have G2 : Hid (hexOk (c - 32) = hexOk c) := g2
        clear g1 g2 hA
        go_wp2_with fail
        refine (zzhex_any _ _ ?_ ?_).mono ?_
        · omega
        · omega
        rintro e w1 ⟨rfl, hw⟩
        subst hw
        rw [G1.out, G2.out]
        go_wp2_with fail
        go_ret
        exact ⟨rfl, rfl⟩
      have hr : c < 65 ∨ (90 < c ∧ c < 97) ∨ 122 < c := by omega
      clear hA hB
      rcases hr with h | ⟨h, h'⟩ | h
      all_goals
        go_wp2_with fail
        go_ret
        exact ⟨rfl, rfl⟩
end Go.Proofs.Qxb6617565a
