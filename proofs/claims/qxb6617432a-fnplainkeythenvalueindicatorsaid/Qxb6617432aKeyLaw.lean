import Derived.Test.Qxb6617432aZZLineEnd
import Derived.Test.Qxb6617432aZZFollows
import Derived.Test.Qxb6617432aStopWalks
import Derived.Test.Qxb6617432aGuards
namespace Go.Proofs.Qxb6617432a.fnPlainKeyThenValueIndicator
open Go.RowKit

theorem stop_nonblank {s : ByteArray} {pos : Nat} {fl : Bool} {t : Nat} (hF : FirstStop s pos fl t) (hlt : t < s.size) : blank (byt s t) = false := by
  cases h : blank (byt s t) with
  | false => rfl
  | true =>
    have := hF.stop hlt
    rw [blank_stopper h] at this
    cases this

/-- The blanks behind the scalar's end lead to the stopper. -/
theorem skip_stop {s : ByteArray} {pos : Nat} {fl : Bool} {t x i : Nat} (hF : FirstStop s pos fl t) (hT : Trim s pos t x) (h : Skip s x i) : i = t := by
  obtain ⟨lo, hi, all, stop⟩ := h
  have a := hT.hi
  by_cases h1 : i < t
  · have := stop (by have := hF.hi; omega)
    rw [hT.all i lo h1] at this
    cases this
  by_cases h2 : t < i
  · have := all t a h2
    rw [stop_nonblank hF (by omega)] at this
    cases this
  omega

theorem key_yes {s : ByteArray} {pos : Nat} {fl ok : Bool} {t x at' : Nat} (hF : FirstStop s pos fl t) (hT : Trim s pos t x) (hlt : t < s.size) (h58 : byt s t = 58) (h : ZVF s x false fl ok at') : ok = true ∧ at' = t := by
  obtain ⟨i, hs, h1, h2⟩ := h
  obtain rfl := skip_stop hF hT hs
  have hv : vcol s i fl = true := by
    have := hF.stop hlt
    unfold stopper at this
    rw [h58] at this
    simpa [flow] using this
  have e : colonAt s false fl i = true := by
    unfold vcol goes at hv
    rw [h58] at hv
    simp only [colonAt, hlt, h58]
    cases he : ends (byt s (i + 1)) <;> cases fl <;> cases hf : flow (byt s (i + 1)) <;> simp_all
  rw [e] at h1 h2
  exact ⟨h1, h2⟩

theorem key_no {s : ByteArray} {pos : Nat} {fl ok : Bool} {t x at' : Nat} (hF : FirstStop s pos fl t) (hT : Trim s pos t x) (hno : t < s.size → byt s t ≠ 58) (h : ZVF s x false fl ok at') : ok = false ∧ at' = x := by
  obtain ⟨i, hs, h1, h2⟩ := h
  obtain rfl := skip_stop hF hT hs
  have e : colonAt s false fl i = false := by
    by_cases hi : i < s.size
    · have : (byt s i == 58) = false := by simpa using hno hi
      unfold colonAt
      rw [this]
      simp
    · simp [colonAt, hi]
  rw [e] at h1 h2
  exact ⟨h1, h2⟩

set_option maxHeartbeats 1000000 in
theorem walk (s : ByteArray) (a1 : Int) (fl : Bool) (w : World) :
    Calls Try.prog 6 #[.string s, .int .i64 a1, .bool fl] w fun e w' => e = .returned (.bool true) ∧ Below w.heap.size w w' := by
  by_cases hs : s.size ≤ 1048576
  rotate_left
  · go_enter Try.func6, Try.ntmps6
    go_wp2_with (go_at_call 20; refine (guardPK_no s a1 fl _ (by omega)).mono ?_; rintro e w' ⟨rfl, rfl⟩)
    go_ret
    exact ⟨rfl, Below.refl _ _⟩
  go_enter Try.func6, Try.ntmps6
  go_wp2_with fail
  refine (guardPK_yes s a1 fl w hs).mono ?_
  rintro e w' ⟨rfl, hw⟩
  subst hw
  by_cases h64 : s.size ≤ 65536
  rotate_left
  · go_wp2_with fail
    go_ret
    exact ⟨rfl, Below.refl _ _⟩
  by_cases hneg : a1 < 0
  · go_wp2_with fail
    go_ret
    exact ⟨rfl, Below.refl _ _⟩
  by_cases hbig : (s.size : Int) < a1
  · go_wp2_with fail
    go_ret
    exact ⟨rfl, Below.refl _ _⟩
  obtain ⟨pos, rfl⟩ : ∃ pos : Nat, a1 = (pos : Int) := ⟨a1.toNat, by omega⟩
  have hp : pos ≤ s.size := by omega
  clear hneg hbig
  go_wp2_with fail
  refine (firstStopB_any s pos fl w' hp hs).mono ?_
  rintro e w ⟨⟨t, rfl, hF⟩, hw⟩
  subst hw
  go_wp2_with fail
  refine (trimBackB_any s pos t w hF.lo hF.hi hs).mono ?_
  rintro e w' ⟨⟨x, rfl, hT⟩, hw⟩
  subst hw
  have t1 := hF.hi
  have t2 := hT.hi
  have hx : x ≤ s.size := by omega
  have hway : (t < s.size ∧ (byt s t == 58) = true) ∨ ((t < s.size ∧ (byt s t == 58) = false) ∨ ¬ t < s.size) := by
    by_cases h : t < s.size
    · cases h5 : byt s t == 58 with
      | true => exact .inl ⟨h, rfl⟩
      | false => exact .inr (.inl ⟨h, rfl⟩)
    · exact .inr (.inr h)
  rcases hway with ⟨hlt, h58⟩ | hway
  · have hbt := byt_eq hlt
    have H58 : Hid (byt s t = 58) := by show byt s t = 58; simpa using h58
    go_wp2_with fail
    refine (zzLineEnd_any s pos fl w' hp hs).mono ?_
    rintro e w1 ⟨y, rfl, hz, hb⟩
    obtain rfl := PLE.unique hF hT hz
    go_wp2_with fail
    refine (zzFollows_any s y false fl w1 hx hs).mono ?_
    rintro e w2 ⟨ok, at', rfl, hz2, hb2⟩
    obtain ⟨rfl, rfl⟩ := key_yes hF hT hlt H58.out hz2
    go_wp2_with fail
    go_ret
    exact ⟨rfl, hb.trans (hb2.mono hb.size)⟩
  · have HNO : Hid (t < s.size → byt s t ≠ 58) := by
      intro h
      rcases hway with ⟨_, h5⟩ | h5
      · simpa using h5
      · exact absurd h h5
    rcases hway with ⟨hlt, h58⟩ | hlt
    · have hbt := byt_eq hlt
      go_wp2_with fail
      refine (zzLineEnd_any s pos fl w' hp hs).mono ?_
      rintro e w1 ⟨y, rfl, hz, hb⟩
      obtain rfl := PLE.unique hF hT hz
      go_wp2_with fail
      refine (zzFollows_any s y false fl w1 hx hs).mono ?_
      rintro e w2 ⟨ok, at', rfl, hz2, hb2⟩
      obtain ⟨rfl, rfl⟩ := key_no hF hT HNO.out hz2
      go_wp2_with fail
      go_ret
      exact ⟨rfl, hb.trans (hb2.mono hb.size)⟩
    · go_wp2_with fail
      refine (zzLineEnd_any s pos fl w' hp hs).mono ?_
      rintro e w1 ⟨y, rfl, hz, hb⟩
      obtain rfl := PLE.unique hF hT hz
      go_wp2_with fail
      refine (zzFollows_any s y false fl w1 hx hs).mono ?_
      rintro e w2 ⟨ok, at', rfl, hz2, hb2⟩
      obtain ⟨rfl, rfl⟩ := key_no hF hT HNO.out hz2
      go_wp2_with fail
      go_ret
      exact ⟨rfl, hb.trans (hb2.mono hb.size)⟩
end Go.Proofs.Qxb6617432a.fnPlainKeyThenValueIndicator
