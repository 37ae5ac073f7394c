import Derived.Test.Qxb6617432aBase
namespace Go.Proofs.Qxb6617432a
open Go.RowKit

/-- Byte k of a text; 0 behind its end. -/
def byt (s : ByteArray) (k : Nat) : Int := if h : k < s.size then (s[k].toNat : Int) else 0

theorem byt_eq {s : ByteArray} {k : Nat} (h : k < s.size) : (s[k].toNat : Int) = byt s k := by
  unfold byt
  rw [dif_pos h]
theorem byt_end {s : ByteArray} {k : Nat} (h : ¬ k < s.size) : byt s k = 0 := by
  unfold byt
  rw [dif_neg h]

/-- i is the first place from pos on that holds no blank, or the text's end. -/
structure Skip (s : ByteArray) (pos i : Nat) : Prop where
  lo : pos ≤ i
  hi : i ≤ s.size
  all : ∀ j, pos ≤ j → j < i → blank (byt s j) = true
  stop : i < s.size → blank (byt s i) = false

/-- Does a value's colon stand at i? -/
def colonAt (s : ByteArray) (adj fl : Bool) (i : Nat) : Bool := decide (i < s.size) && byt s i == 58 && (adj || ends (byt s (i + 1)) || (fl && flow (byt s (i + 1))))

/-- What 'valueFollows' answers, and what becomes of the cursor (cell 1 of block b). -/
def VFEnd (s : ByteArray) (pos : Nat) (adj fl : Bool) (b : Nat) (w : World) (e : Ending) (w' : World) : Prop :=
  ∃ i, Skip s pos i ∧ ((colonAt s adj fl i = true ∧ e = .returned (.bool true) ∧ w' = w.setCell ⟨b, 1, none⟩ (.int .i64 i)) ∨ (colonAt s adj fl i = false ∧ e = .returned (.bool false) ∧ w' = w))

theorem VFEnd.no {s : ByteArray} {pos : Nat} {adj fl : Bool} {b : Nat} {w : World} {i : Nat} (h : Skip s pos i) (hc : colonAt s adj fl i = false) : VFEnd s pos adj fl b w (.returned (.bool false)) w := ⟨i, h, .inr ⟨hc, rfl, rfl⟩⟩
theorem VFEnd.yes {s : ByteArray} {pos : Nat} {adj fl : Bool} {b : Nat} {w : World} {i : Nat} (h : Skip s pos i) (hc : colonAt s adj fl i = true) : VFEnd s pos adj fl b w (.returned (.bool true)) (w.setCell ⟨b, 1, none⟩ (.int .i64 i)) := ⟨i, h, .inl ⟨hc, rfl, rfl⟩⟩

theorem all_snoc {s : ByteArray} {pos k : Nat} (h : ∀ j, pos ≤ j → j < k → blank (byt s j) = true) (hk : blank (byt s k) = true) : ∀ j, pos ≤ j → j < k + 1 → blank (byt s j) = true := by
  intro j h1 h2
  by_cases e : j = k
  · rw [e]; exact hk
  · exact h j h1 (by omega)

set_option maxHeartbeats 1000000 in
/-- 'valueFollows' -/
theorem valueFollows_any (s : ByteArray) (pos : Nat) (adj fl : Bool) (b : Nat) (w : World) (hp : pos ≤ s.size) (hs : s.size ≤ 1048576)
    (c0 : w.cell? ⟨b, 0, none⟩ = some (.string s)) (c1 : w.cell? ⟨b, 1, none⟩ = some (.int .i64 pos)) (fz : w.frozen? ⟨b, 1, none⟩ = false) :
    Calls Try.prog 21 #[.pointer (some ⟨b, 0, none⟩), .bool adj, .bool fl] w fun e w' => VFEnd s pos adj fl b w e w' := by
  go_enter Try.func21, Try.ntmps21
  go_wp2_with fail
  go_loop [7] (fun i => ∃ k : Nat, pos ≤ k ∧ k ≤ s.size ∧ i = .int .i64 k ∧ ∀ j, pos ≤ j → j < k → blank (byt s j) = true) (fun i => s.size - (intOf i).toNat)
  case atStart => exact ⟨pos, Nat.le_refl _, hp, rfl, fun j h1 h2 => by omega⟩
  case round =>
    obtain ⟨k, hlo, hhi, rfl, hall⟩ := hrel
    have HA : Hid (∀ j, pos ≤ j → j < k → blank (byt s j) = true) := hall
    clear hall
    by_cases hlt : k < s.size
    · have hbk := byt_eq hlt
      cases hbl : blank (byt s k) with
      | true =>
        go_wp2_with (go_at_call 26; refine (isBlank_any _ _).mono ?_; rintro e w' ⟨rfl, rfl⟩)
        go_round
        case rel => exact ⟨k + 1, by omega, by omega, by go_num, all_snoc HA.out hbl⟩
        case measure => simp [intOf]; omega
      | false =>
        have SK : Skip s pos k := ⟨hlo, hhi, HA.out, fun _ => hbl⟩
        have hne : ((k : Int) == (s.size : Int)) = false := by simp; omega
        clear HA
        by_cases h58 : (byt s k == 58) = true
        · have HC : Hid (colonAt s adj fl k = (adj || ends (byt s (k + 1)) || (fl && flow (byt s (k + 1))))) := by
            show colonAt s adj fl k = (adj || ends (byt s (k + 1)) || (fl && flow (byt s (k + 1))))
            simp [colonAt, hlt, h58]
          by_cases hnx : k + 1 < s.size
          · have hb1 := byt_eq hnx
            cases adj with
            | true =>
              go_wp2_with (first | (go_at_call 26; refine (isBlank_any _ _).mono ?_; rintro e w' ⟨rfl, rfl⟩) | (go_at_call 27; refine (isBlankOrEnd_any _ _).mono ?_; rintro e w' ⟨rfl, rfl⟩) | (go_at_call 28; refine (isFlow_any _ _).mono ?_; rintro e w' ⟨rfl, rfl⟩))
              go_ret
              exact VFEnd.yes SK (by rw [HC.out]; simp [])
            | false =>
              cases he : ends (byt s (k + 1)) with
              | true =>
                go_wp2_with (first | (go_at_call 26; refine (isBlank_any _ _).mono ?_; rintro e w' ⟨rfl, rfl⟩) | (go_at_call 27; refine (isBlankOrEnd_any _ _).mono ?_; rintro e w' ⟨rfl, rfl⟩) | (go_at_call 28; refine (isFlow_any _ _).mono ?_; rintro e w' ⟨rfl, rfl⟩))
                go_ret
                exact VFEnd.yes SK (by rw [HC.out]; simp [he])
              | false =>
                cases fl with
                | false =>
                  go_wp2_with (first | (go_at_call 26; refine (isBlank_any _ _).mono ?_; rintro e w' ⟨rfl, rfl⟩) | (go_at_call 27; refine (isBlankOrEnd_any _ _).mono ?_; rintro e w' ⟨rfl, rfl⟩) | (go_at_call 28; refine (isFlow_any _ _).mono ?_; rintro e w' ⟨rfl, rfl⟩))
                  go_ret
                  exact VFEnd.no SK (by rw [HC.out]; simp [he])
                | true =>
                  cases hf : flow (byt s (k + 1)) with
                  | true =>
                    go_wp2_with (first | (go_at_call 26; refine (isBlank_any _ _).mono ?_; rintro e w' ⟨rfl, rfl⟩) | (go_at_call 27; refine (isBlankOrEnd_any _ _).mono ?_; rintro e w' ⟨rfl, rfl⟩) | (go_at_call 28; refine (isFlow_any _ _).mono ?_; rintro e w' ⟨rfl, rfl⟩))
                    go_ret
                    exact VFEnd.yes SK (by rw [HC.out]; simp [he, hf])
                  | false =>
                    go_wp2_with (first | (go_at_call 26; refine (isBlank_any _ _).mono ?_; rintro e w' ⟨rfl, rfl⟩) | (go_at_call 27; refine (isBlankOrEnd_any _ _).mono ?_; rintro e w' ⟨rfl, rfl⟩) | (go_at_call 28; refine (isFlow_any _ _).mono ?_; rintro e w' ⟨rfl, rfl⟩))
                    go_ret
                    exact VFEnd.no SK (by rw [HC.out]; simp [he, hf])
          · have HE : Hid (byt s (k + 1) = 0) := byt_end hnx
            cases adj with
            | true =>
              go_wp2_with (first | (go_at_call 26; refine (isBlank_any _ _).mono ?_; rintro e w' ⟨rfl, rfl⟩) | (go_at_call 27; refine (isBlankOrEnd_any _ _).mono ?_; rintro e w' ⟨rfl, rfl⟩) | (go_at_call 28; refine (isFlow_any _ _).mono ?_; rintro e w' ⟨rfl, rfl⟩))
              go_ret
              exact VFEnd.yes SK (by rw [HC.out]; simp [])
            | false =>
              have he : ends 0 = true := rfl
              go_wp2_with (first | (go_at_call 26; refine (isBlank_any _ _).mono ?_; rintro e w' ⟨rfl, rfl⟩) | (go_at_call 27; refine (isBlankOrEnd_any _ _).mono ?_; rintro e w' ⟨rfl, rfl⟩) | (go_at_call 28; refine (isFlow_any _ _).mono ?_; rintro e w' ⟨rfl, rfl⟩))
              go_ret
              exact VFEnd.yes SK (by rw [HC.out]; simp [HE.out, he])
        · have h58' : (byt s k == 58) = false := by simpa using h58
          have HC : Hid (colonAt s adj fl k = false) := by
            show colonAt s adj fl k = false
            simp [colonAt, h58']
          clear h58
          go_wp2_with (first | (go_at_call 26; refine (isBlank_any _ _).mono ?_; rintro e w' ⟨rfl, rfl⟩) | (go_at_call 27; refine (isBlankOrEnd_any _ _).mono ?_; rintro e w' ⟨rfl, rfl⟩) | (go_at_call 28; refine (isFlow_any _ _).mono ?_; rintro e w' ⟨rfl, rfl⟩))
          go_ret
          exact VFEnd.no SK HC.out
    · have SK : Skip s pos k := ⟨hlo, hhi, HA.out, fun h => absurd h hlt⟩
      have HC : Hid (colonAt s adj fl k = false) := by
        show colonAt s adj fl k = false
        simp [colonAt, hlt]
      clear HA
      go_wp2_with fail
      go_ret
      exact VFEnd.no SK HC.out
end Go.Proofs.Qxb6617432a
