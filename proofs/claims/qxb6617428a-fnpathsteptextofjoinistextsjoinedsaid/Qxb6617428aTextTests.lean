import Derived.Test.Qxb6617428aRowsOwn
import Derived.Test.Qxb6617428aSteps
namespace Go.Proofs.Qxb6617428a
open Go.RowKit Go.Lib

theorem no_steps (w : World) : IsSteps w none [] := ⟨by simp, by simp, fun i s h => by simp at h⟩

set_option maxHeartbeats 1000000 in
/-- 'bytesEqualFieldB1' at two slices that hold the same bytes. -/
theorem bytesEqual_any (x y : Value) (l : List UInt8) (w : World) (hx : Bytes w x l) (hy : Bytes w y l) :
    Calls Try.prog 15 #[x, y] w fun e w' => e = .returned (.bool true) ∧ Below w.heap.size w w' := by
  obtain ⟨hl, ax, cx, hvx, -, hcx⟩ := hx
  obtain ⟨-, ay, cy, hvy, -, hcy⟩ := hy
  subst hvx hvy
  unfold maxLen at hl
  go_enter Try.func15, Try.ntmps15
  go_wp2_with fail
  go_loopw [5] (fun i wr => ∃ k : Nat, k ≤ l.length ∧ i = .int .i64 k ∧ Below w.heap.size w wr) (fun i _ => l.length - (intOf i).toNat)
  case atStart => exact ⟨0, Nat.zero_le _, rfl, Below.refl _ _⟩
  case round =>
    obtain ⟨k, hk, rfl, hbel⟩ := hrel
    by_cases hlt : k < l.length
    · obtain ⟨gx, ox, rfl, kx⟩ := hcx k l[k] (by simp [hlt])
      obtain ⟨gy, oy, rfl, ky⟩ := hcy k l[k] (by simp [hlt])
      have kx' := cell_below hbel kx
      have ky' := cell_below hbel ky
      have HL : (k : Int) < l.length := by omega
      generalize l[k] = bt at kx' ky'
      clear kx ky hcx hcy
      go_wp2_with fail
      go_quiet (fail)
      go_wp2_with fail
      go_roundw
      case rel => exact ⟨k + 1, by omega, by go_num, below_drewN hbel _⟩
      case measure => simp [intOf]; omega
    · go_wp2_with fail
      go_ret
      exact ⟨rfl, hbel⟩

set_option maxHeartbeats 1000000 in
/-- 'pathTextLenFieldB1' -/
theorem textLen_any (a b : Option Addr) (capa capb : Nat) (A B : List Step) (w : World) (ha : IsSteps w a A) (hb : IsSteps w b B) (hsz : A.length + B.length ≤ 4194304) (ht : (text (A ++ B)).length ≤ 16777216) :
    Calls Try.prog 16 #[.slice a A.length capa, .slice b B.length capb] w fun e w' => e = .returned (.int .i64 (text (A ++ B)).length) ∧ Below w.heap.size w w' := by
  go_enter Try.func16, Try.ntmps16
  go_wp2_with fail
  go_loopw [5, 6] (fun n i wr => ∃ k : Nat, k ≤ A.length + B.length ∧ i = .int .i64 k ∧ n = .int .i64 (text ((A ++ B).take k)).length ∧ Below w.heap.size w wr) (fun _ i _ => A.length + B.length - (intOf i).toNat)
  case atStart => exact ⟨0, Nat.zero_le _, rfl, rfl, Below.refl _ _⟩
  case round =>
    obtain ⟨k, hk, rfl, rfl, hbel⟩ := hrel
    by_cases hlt : k < A.length + B.length
    · have hlt' : k < (A ++ B).length := by simpa using hlt
      have hstep := text_len_take (A ++ B) k hlt'
      have hle : (text ((A ++ B).take (k + 1))).length ≤ (text (A ++ B)).length := by
        have := text_take_le ((A ++ B).take (k + 1)) ((A ++ B).drop (k + 1))
        rwa [List.take_append_drop] at this
      have hs : (A ++ B ++ [])[k]? = some (A ++ B)[k] := by rw [List.append_nil, List.getElem?_eq_getElem hlt']
      generalize (A ++ B)[k] = s at hstep hs
      obtain ⟨nm, sub, key⟩ := s
      rw [hstep] at hle
      have HS : Hid ((text ((A ++ B).take (k + 1))).length = (text ((A ++ B).take k)).length + stepLen (decide (k = 0)) ⟨nm, sub, key⟩) := hstep
      clear hstep
      unfold stepLen at hle
      simp only at hle
      have hnm : (text ((A ++ B).take k)).length + nm.size ≤ 16777216 := by omega
      clear hle
      generalize (text ((A ++ B).take k)).length = tl at HS hnm
      go_wp2_with fail
      refine (stepAt_any a b none capa capb 0 A B [] wr (ha.below hbel) (hb.below hbel) (no_steps _) k ⟨nm, sub, key⟩ hs (by omega)).mono ?_
      rintro e w1 ⟨rfl, hb1⟩
      have hbel1 := hbel.trans (hb1.mono hbel.size)
      have halloc : Below w1.heap.size w1 (w1.alloc (.cells #[.string nm, .bool sub, .bool key] 34)) := (Below.refl _ _).alloc (Nat.le_refl _) _
      have hend := hbel1.trans (halloc.mono hbel1.size)
      clear halloc hb1 hs
      cases sub
      · by_cases h0 : k = 0
        · have HZ : Hid (k = 0) := h0
          have hle0 : k ≤ 0 := by omega
          clear h0
          go_wp2_with fail
          go_roundw
          case rel => exact ⟨k + 1, by omega, by go_num, by rw [HS.out]; simp [stepLen, HZ.out], hend⟩
          case measure => simp [intOf]; omega
        · have hpos : 0 < k := by omega
          have HZ : Hid (¬ k = 0) := h0
          clear h0
          go_wp2_with fail
          go_roundw
          case rel => exact ⟨k + 1, by omega, by go_num, by rw [HS.out]; simp [stepLen, HZ.out]; omega, hend⟩
          case measure => simp [intOf]; omega
      · go_wp2_with fail
        go_roundw
        case rel => exact ⟨k + 1, by omega, by go_num, by rw [HS.out]; simp [stepLen]; omega, hend⟩
        case measure => simp [intOf]; omega
    · have HT : Hid ((A ++ B).take k = A ++ B) := by show (A ++ B).take k = A ++ B; rw [List.take_of_length_le (by simp; omega)]
      rw [HT.out]
      go_wp2_with fail
      go_ret
      exact ⟨rfl, hbel⟩
end Go.Proofs.Qxb6617428a
