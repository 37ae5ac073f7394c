import Derived.Test.Qxb6617432aFollows
namespace Go.Proofs.Qxb6617432a
open Go.RowKit

/-- A colon at k that a plain scalar cannot hold. -/
def vcol (s : ByteArray) (k : Nat) (f : Bool) : Bool := byt s k == 58 && !goes (byt s (k + 1)) f

theorem goes0 (f : Bool) : goes 0 f = false := by cases f <;> rfl

set_option maxHeartbeats 400000 in
/-- 'valueColonB' -/
theorem valueColonB_any (s : ByteArray) (k : Nat) (f : Bool) (w : World) (hk : k < s.size) (hs : s.size ≤ 1048576) :
    Calls Try.prog 18 #[.string s, .int .i64 k, .bool f] w fun e w' => e = .returned (.bool (vcol s k f)) ∧ w' = w := by
  have hbk := byt_eq hk
  by_cases h58 : (byt s k == 58) = true
  · by_cases hnx : k + 1 < s.size
    · have hb1 := byt_eq hnx
      have hne : ((k : Int) + 1 == (s.size : Int)) = false := by simp; omega
      have HV : Hid (vcol s k f = !goes (byt s (k + 1)) f) := by show vcol s k f = !goes (byt s (k + 1)) f; simp [vcol, h58]
      go_enter Try.func18, Try.ntmps18
      go_wp2_with (go_at_call 24; refine (goesOnB_any _ _ _).mono ?_; rintro e w' ⟨rfl, rfl⟩)
      go_ret
      exact ⟨by rw [HV.out]; rfl, rfl⟩
    · have he : ((k : Int) + 1 == (s.size : Int)) = true := by simp; omega
      have HV : Hid (vcol s k f = true) := by show vcol s k f = true; simp [vcol, h58, byt_end hnx, goes0]
      go_enter Try.func18, Try.ntmps18
      go_wp2_with fail
      go_ret
      exact ⟨by rw [HV.out]; rfl, rfl⟩
  · have h58' : (byt s k == 58) = false := by simpa using h58
    clear h58
    have HV : Hid (vcol s k f = false) := by show vcol s k f = false; simp [vcol, h58']
    go_enter Try.func18, Try.ntmps18
    go_wp2_with fail
    go_ret
    exact ⟨by rw [HV.out]; rfl, rfl⟩

/-- Three like bytes at k. -/
def triple (s : ByteArray) (k : Nat) (x : Int) : Bool := byt s k == x && byt s (k + 1) == x && byt s (k + 2) == x
/-- A document marker opens the line that starts at k. -/
def marker (s : ByteArray) (k : Nat) : Bool := decide (k + 3 ≤ s.size) && (triple s k 45 || triple s k 46) && ends (byt s (k + 3))

theorem ends0 : ends 0 = true := rfl

set_option maxHeartbeats 1000000 in
/-- 'markerLineB' -/
theorem markerLineB_any (s : ByteArray) (k : Nat) (w : World) (hk : k ≤ s.size) (hs : s.size ≤ 1048576) :
    Calls Try.prog 17 #[.string s, .int .i64 k] w fun e w' => e = .returned (.bool (marker s k)) ∧ w' = w := by
  by_cases h3 : k + 3 ≤ s.size
  rotate_left
  · have HV : Hid (marker s k = false) := by show marker s k = false; simp [marker, h3]
    go_enter Try.func17, Try.ntmps17
    go_wp2_with fail
    go_ret
    exact ⟨by rw [HV.out]; rfl, rfl⟩
  have hb0 := byt_eq (show k < s.size by omega)
  have hb1 := byt_eq (show k + 1 < s.size by omega)
  have hb2 := byt_eq (show k + 2 < s.size by omega)
  have HM : Hid (marker s k = ((triple s k 45 || triple s k 46) && ends (byt s (k + 3)))) := by
    show marker s k = ((triple s k 45 || triple s k 46) && ends (byt s (k + 3)))
    simp [marker, h3]
  by_cases x0 : (byt s k == 45) = true
  · by_cases x1 : (byt s (k + 1) == 45) = true
    · by_cases x2 : (byt s (k + 2) == 45) = true
      · skip
        have HV : Hid (marker s k = ends (byt s (k + 3))) := by show marker s k = ends (byt s (k + 3)); rw [HM.out]; simp [triple, x0, x1, x2]
        clear HM
        by_cases hnx : k + 3 < s.size
        · have hb3 := byt_eq hnx
          have hne : ((k : Int) + 3 == (s.size : Int)) = false := by simp; omega
          go_enter Try.func17, Try.ntmps17
          go_wp2_with (go_at_call 9; refine (endsB_any _ _).mono ?_; rintro e w' ⟨rfl, rfl⟩)
          go_ret
          exact ⟨by rw [HV.out]; rfl, rfl⟩
        · have he : ((k : Int) + 3 == (s.size : Int)) = true := by simp; omega
          have HE : Hid (ends (byt s (k + 3)) = true) := by show ends (byt s (k + 3)) = true; rw [byt_end hnx]; rfl
          go_enter Try.func17, Try.ntmps17
          go_wp2_with fail
          go_ret
          exact ⟨by rw [HV.out, HE.out]; rfl, rfl⟩
      · have y2 : (byt s (k + 2) == 45) = false := by simpa using x2
        clear x2
        have e46 : (byt s k == 46) = false := by have := x0; simp at this; simp [this]
        have HV : Hid (marker s k = false) := by show marker s k = false; rw [HM.out]; simp [triple, x0, x1, y2, e46]
        clear HM
        go_enter Try.func17, Try.ntmps17
        go_wp2_with fail
        go_ret
        exact ⟨by rw [HV.out]; rfl, rfl⟩
    · have y1 : (byt s (k + 1) == 45) = false := by simpa using x1
      clear x1
      have e46 : (byt s k == 46) = false := by have := x0; simp at this; simp [this]
      have HV : Hid (marker s k = false) := by show marker s k = false; rw [HM.out]; simp [triple, x0, y1, e46]
      clear HM
      go_enter Try.func17, Try.ntmps17
      go_wp2_with fail
      go_ret
      exact ⟨by rw [HV.out]; rfl, rfl⟩
  · have y0 : (byt s k == 45) = false := by simpa using x0
    clear x0
    by_cases z0 : (byt s k == 46) = true
    · by_cases z1 : (byt s (k + 1) == 46) = true
      · by_cases z2 : (byt s (k + 2) == 46) = true
        · skip
          have HV : Hid (marker s k = ends (byt s (k + 3))) := by show marker s k = ends (byt s (k + 3)); rw [HM.out]; simp [triple, y0, z0, z1, z2]
          clear HM
          by_cases hnx : k + 3 < s.size
          · have hb3 := byt_eq hnx
            have hne : ((k : Int) + 3 == (s.size : Int)) = false := by simp; omega
            go_enter Try.func17, Try.ntmps17
            go_wp2_with (go_at_call 9; refine (endsB_any _ _).mono ?_; rintro e w' ⟨rfl, rfl⟩)
            go_ret
            exact ⟨by rw [HV.out]; rfl, rfl⟩
          · have he : ((k : Int) + 3 == (s.size : Int)) = true := by simp; omega
            have HE : Hid (ends (byt s (k + 3)) = true) := by show ends (byt s (k + 3)) = true; rw [byt_end hnx]; rfl
            go_enter Try.func17, Try.ntmps17
            go_wp2_with fail
            go_ret
            exact ⟨by rw [HV.out, HE.out]; rfl, rfl⟩
        · have v2 : (byt s (k + 2) == 46) = false := by simpa using z2
          clear z2
          have HV : Hid (marker s k = false) := by show marker s k = false; rw [HM.out]; simp [triple, y0, z0, z1, v2]
          clear HM
          go_enter Try.func17, Try.ntmps17
          go_wp2_with fail
          go_ret
          exact ⟨by rw [HV.out]; rfl, rfl⟩
      · have v1 : (byt s (k + 1) == 46) = false := by simpa using z1
        clear z1
        have HV : Hid (marker s k = false) := by show marker s k = false; rw [HM.out]; simp [triple, y0, z0, v1]
        clear HM
        go_enter Try.func17, Try.ntmps17
        go_wp2_with fail
        go_ret
        exact ⟨by rw [HV.out]; rfl, rfl⟩
    · have v0 : (byt s k == 46) = false := by simpa using z0
      clear z0
      have HV : Hid (marker s k = false) := by show marker s k = false; rw [HM.out]; simp [triple, y0, v0]
      clear HM
      go_enter Try.func17, Try.ntmps17
      go_wp2_with fail
      go_ret
      exact ⟨by rw [HV.out]; rfl, rfl⟩
end Go.Proofs.Qxb6617432a
