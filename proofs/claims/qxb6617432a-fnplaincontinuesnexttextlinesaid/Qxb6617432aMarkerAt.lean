import Derived.Test.Qxb6617432aMarks
import Derived.Lib.Strings
namespace Go.Proofs.Qxb6617432a
open Go.RowKit

theorem three {s : ByteArray} {k : Nat} (h : k + 3 ≤ s.size) : (s.extract k (k + 3)).toList = [s[k], s[k + 1], s[k + 2]] := by
  rw [ByteArray.toList_eq, ByteArray.data_extract, Array.toList_extract]
  have hl : s.data.toList.length = s.size := by rw [Array.length_toList]; rfl
  have e0 : s.data.toList.drop k = s[k] :: s.data.toList.drop (k + 1) := by rw [List.drop_eq_getElem_cons (by omega)]; rfl
  have e1 : s.data.toList.drop (k + 1) = s[k + 1] :: s.data.toList.drop (k + 2) := by rw [List.drop_eq_getElem_cons (by omega)]; rfl
  have e2 : s.data.toList.drop (k + 2) = s[k + 2] :: s.data.toList.drop (k + 3) := by rw [List.drop_eq_getElem_cons (by omega)]; rfl
  rw [List.extract_eq_take_drop, e0, e1, e2]
  simp

theorem beq45 (x : UInt8) : (x == 45) = ((x.toNat : Int) == 45) := by
  rw [Bool.eq_iff_iff]
  simp [← UInt8.toNat_inj]
  omega
theorem beq46 (x : UInt8) : (x == 46) = ((x.toNat : Int) == 46) := by
  rw [Bool.eq_iff_iff]
  simp [← UInt8.toNat_inj]
  omega

theorem three45 {s : ByteArray} {k : Nat} (h : k + 3 ≤ s.size) : ((s.extract k (k + 3)).toList == [45, 45, 45]) = triple s k 45 := by
  rw [three h]
  show (s[k] == 45 && (s[k + 1] == 45 && (s[k + 2] == 45 && true))) = triple s k 45
  rw [beq45, beq45, beq45, byt_eq, byt_eq, byt_eq]
  simp [triple, Bool.and_assoc]
theorem three46 {s : ByteArray} {k : Nat} (h : k + 3 ≤ s.size) : ((s.extract k (k + 3)).toList == [46, 46, 46]) = triple s k 46 := by
  rw [three h]
  show (s[k] == 46 && (s[k + 1] == 46 && (s[k + 2] == 46 && true))) = triple s k 46
  rw [beq46, beq46, beq46, byt_eq, byt_eq, byt_eq]
  simp [triple, Bool.and_assoc]

set_option maxHeartbeats 1000000 in
/-- 'markerAt' -/
theorem markerAt_any (s : ByteArray) (k b : Nat) (w : World) (hk : k ≤ s.size) (hs : s.size ≤ 1048576) (c0 : w.cell? ⟨b, 0, none⟩ = some (.string s)) :
    Calls Try.prog 30 #[.pointer (some ⟨b, 0, none⟩), .int .i64 k] w fun e w' => e = .returned (.bool (marker s k)) ∧ w' = w := by
  by_cases h3 : k + 3 ≤ s.size
  rotate_left
  · have HV : Hid (marker s k = false) := by show marker s k = false; simp [marker, h3]
    go_enter Try.func30, Try.ntmps30
    go_wp2_with fail
    go_ret
    exact ⟨by rw [HV.out]; rfl, rfl⟩
  obtain ⟨t, ht⟩ : ∃ t, t = s.extract k (k + 3) := ⟨_, rfl⟩
  have hsl : ∀ wx : World, (Instr.slice 9 (.string s) (some (.int .i64 (k : Int))) (some (.int .i64 ((k : Int) + 3))) none).run Try.prog wx = .ok (.string t) wx := by
    intro wx
    rw [run_slice_string (P := Try.prog) wx 9 s .i64 .i64 (k : Int) ((k : Int) + 3) Try.underlying9 (by omega) (by omega) (by omega), ht]
    congr 1
  have HT : Hid (t = s.extract k (k + 3)) := ht
  clear ht
  have h45 : (t.toList == [45, 45, 45]) = triple s k 45 := by rw [HT.out]; exact three45 h3
  have h46 : (t.toList == [46, 46, 46]) = triple s k 46 := by rw [HT.out]; exact three46 h3
  clear HT
  have HM : Hid (marker s k = ((triple s k 45 || triple s k 46) && ends (byt s (k + 3)))) := by
    show marker s k = ((triple s k 45 || triple s k 46) && ends (byt s (k + 3)))
    simp [marker, h3]
  cases x : triple s k 45 with
  | true =>
    rw [x] at h45
    clear h46
    have HV : Hid (marker s k = ends (byt s (k + 3))) := by show marker s k = ends (byt s (k + 3)); rw [HM.out]; simp [x]
    clear HM
    by_cases hnx : k + 3 < s.size
    · have hb3 := byt_eq hnx
      have hne : ((k : Int) + 3 == (s.size : Int)) = false := by simp; omega
      go_enter Try.func30, Try.ntmps30
      go_wp2_with (go_at_call 27; refine (isBlankOrEnd_any _ _).mono ?_; rintro e w' ⟨rfl, rfl⟩)
      go_ret
      exact ⟨by rw [HV.out]; rfl, rfl⟩
    · have he : ((k : Int) + 3 == (s.size : Int)) = true := by simp; omega
      have HE : Hid (ends (byt s (k + 3)) = true) := by show ends (byt s (k + 3)) = true; rw [byt_end hnx]; rfl
      go_enter Try.func30, Try.ntmps30
      go_wp2_with fail
      go_ret
      exact ⟨by rw [HV.out, HE.out]; rfl, rfl⟩
  | false =>
    rw [x] at h45
    cases y : triple s k 46 with
    | true =>
      rw [y] at h46
      have HV : Hid (marker s k = ends (byt s (k + 3))) := by show marker s k = ends (byt s (k + 3)); rw [HM.out]; simp [x, y]
      clear HM
      by_cases hnx : k + 3 < s.size
      · have hb3 := byt_eq hnx
        have hne : ((k : Int) + 3 == (s.size : Int)) = false := by simp; omega
        go_enter Try.func30, Try.ntmps30
        go_wp2_with (go_at_call 27; refine (isBlankOrEnd_any _ _).mono ?_; rintro e w' ⟨rfl, rfl⟩)
        go_ret
        exact ⟨by rw [HV.out]; rfl, rfl⟩
      · have he : ((k : Int) + 3 == (s.size : Int)) = true := by simp; omega
        have HE : Hid (ends (byt s (k + 3)) = true) := by show ends (byt s (k + 3)) = true; rw [byt_end hnx]; rfl
        go_enter Try.func30, Try.ntmps30
        go_wp2_with fail
        go_ret
        exact ⟨by rw [HV.out, HE.out]; rfl, rfl⟩
    | false =>
      rw [y] at h46
      have HV : Hid (marker s k = false) := by show marker s k = false; rw [HM.out]; simp [x, y]
      clear HM
      go_enter Try.func30, Try.ntmps30
      go_wp2_with fail
      go_ret
      exact ⟨by rw [HV.out]; rfl, rfl⟩
end Go.Proofs.Qxb6617432a
