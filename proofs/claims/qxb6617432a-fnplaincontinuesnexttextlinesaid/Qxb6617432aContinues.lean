import Derived.Test.Qxb6617432aLines
import Derived.Test.Qxb6617432aMarkerAt
namespace Go.Proofs.Qxb6617432a
open Go.RowKit

/-- How 'plainContinues' ends. -/
def PCEnd (s : ByteArray) (pos : Nat) (mi : Int) (fl : Bool) (e : Ending) : Prop :=
  ∃ next br ok, e = .returned (.tuple #[.int .i64 (next : Nat), .int .i64 (br : Nat), .bool ok]) ∧ PC s pos mi fl next br ok
theorem PCEnd.no {s : ByteArray} {pos : Nat} {mi : Int} {fl : Bool} (h : PC s pos mi fl 0 0 false) : PCEnd s pos mi fl (.returned (.tuple #[.int .i64 0, .int .i64 0, .bool false])) := ⟨0, 0, false, rfl, h⟩

theorem markerAt_at (s : ByteArray) (x : Int) (k b : Nat) (w : World) (hx : x = (k : Int)) (hk : k ≤ s.size) (hs : s.size ≤ 1048576) (c0 : w.cell? ⟨b, 0, none⟩ = some (.string s)) :
    Calls Try.prog 30 #[.pointer (some ⟨b, 0, none⟩), .int .i64 x] w fun e w' => e = .returned (.bool (marker s k)) ∧ w' = w := by
  subst hx
  exact markerAt_any s k b w hk hs c0

set_option maxRecDepth 10000 in
set_option maxHeartbeats 4000000 in
/-- 'plainContinues' -/
theorem plainContinues_any (s : ByteArray) (pos : Nat) (mi : Int) (fl : Bool) (b : Nat) (w : World) (hp : pos ≤ s.size) (hs : s.size ≤ 1048576)
    (c0 : w.cell? ⟨b, 0, none⟩ = some (.string s)) (c1 : w.cell? ⟨b, 1, none⟩ = some (.int .i64 pos)) :
    Calls Try.prog 25 #[.pointer (some ⟨b, 0, none⟩), .int .i64 mi, .bool fl] w fun e w' => PCEnd s pos mi fl e ∧ w' = w := by
  go_enter Try.func25, Try.ntmps25
  go_wp2_with fail
  go_loop [9] (fun i => ∃ k : Nat, pos ≤ k ∧ k ≤ s.size ∧ i = .int .i64 k ∧ ∀ j, pos ≤ j → j < k → blank (byt s j) = true) (fun i => s.size - (intOf i).toNat)
  case atStart => exact ⟨pos, Nat.le_refl _, hp, rfl, fun j h1 h2 => by omega⟩
  case round =>
    obtain ⟨k, hlo, hhi, rfl, hall⟩ := hrel
    have HA : Hid (∀ j, pos ≤ j → j < k → blank (byt s j) = true) := hall
    clear hall
    by_cases hlt : k < s.size
    rotate_left
    · have HH := (Head.start (s := s) (pos := pos) (k := k) ⟨hlo, hhi, HA.out, fun h => absurd h hlt⟩).1
      have HP : PC s pos mi fl 0 0 false := HH.out (fun h => absurd h hlt)
      clear HA HH
      go_wp2_with fail
      refine wp_loop_rounds 1 ?_
      rw [rounds_succ]
      go_wp2_with fail
      go_ret3
      exact ⟨PCEnd.no HP, rfl⟩
    have hbk := byt_eq hlt
    cases hbl : blank (byt s k) with
    | true =>
      go_wp2_with (go_at_call 26; refine (isBlank_any _ _).mono ?_; rintro e w' ⟨rfl, rfl⟩)
      go_round
      case rel => exact ⟨k + 1, by omega, by omega, by go_num, all_snoc HA.out hbl⟩
      case measure => simp [intOf]; omega
    | false =>
      obtain ⟨HH, hn0⟩ := Head.start (s := s) (pos := pos) (k := k) ⟨hlo, hhi, HA.out, fun _ => hbl⟩
      have HN0 : Hid (nls s pos k = 0) := hn0
      clear HA hn0
      go_wp2_with (go_at_call 26; refine (isBlank_any _ _).mono ?_; rintro e w' ⟨rfl, rfl⟩)
      clear hbk hbl
      go_loop [7, 9] (fun br i => ∃ k : Nat, Head s pos k ∧ i = .int .i64 k ∧ br = .int .i64 (nls s pos k : Nat)) (fun _ i => s.size - (intOf i).toNat)
      case atStart => exact ⟨k, HH, rfl, by rw [HN0.out]; rfl⟩
      case round =>
        clear HN0 HH hlo hhi hlt
        obtain ⟨k, hH, rfl, rfl⟩ := hrel
        have hlo := hH.lo
        have hhi := hH.hi
        have hnls : nls s pos k ≤ 1048576 := Nat.le_trans (nls_le s pos k) (by omega)
        by_cases hlt : k < s.size
        rotate_left
        · have HP : PC s pos mi fl 0 0 false := hH.out (fun h => absurd h hlt)
          clear hH
          go_wp2_with fail
          go_ret3
          exact ⟨PCEnd.no HP, rfl⟩
        have hbk := byt_eq hlt
        by_cases h10 : (byt s k == 10) = true
        rotate_left
        · have h10' : (byt s k == 10) = false := by simpa using h10
          have HP : PC s pos mi fl 0 0 false := hH.out (fun _ => by simpa using h10')
          clear hH h10
          go_wp2_with fail
          go_ret3
          exact ⟨PCEnd.no HP, rfl⟩
        have H10 : Hid (byt s k = 10) := by show byt s k = 10; simpa using h10
        have HHk : Hid (Head s pos k) := hH
        clear hH
        go_wp2_with fail
        clear hbk h10
        go_loop [9] (fun i => ∃ m : Nat, k + 1 ≤ m ∧ m ≤ s.size ∧ i = .int .i64 m ∧ ∀ j, k + 1 ≤ j → j < m → byt s j = 32) (fun i => s.size - (intOf i).toNat)
        case atStart => exact ⟨k + 1, Nat.le_refl _, by omega, by go_num, fun j h1 h2 => by omega⟩
        case round =>
          obtain ⟨m, mlo, mhi, rfl, hsp⟩ := hrel
          have HSP : Hid (∀ j, k + 1 ≤ j → j < m → byt s j = 32) := hsp
          clear hsp
          by_cases hm : m < s.size
          rotate_left
          · have RR : Round s pos k m m := ⟨HHk.out, hlt, H10.out, mlo, HSP.out, fun h => absurd h hm, Nat.le_refl _, mhi, fun j h1 h2 => by omega, fun h => absurd h hm⟩
            have he : ((m : Int) == (s.size : Int)) = true := by simp; omega
            clear HSP HHk H10
            go_wp2_with fail
            refine wp_loop_rounds 1 ?_
            rw [rounds_succ]
            go_wp2_with fail
            go_round
            case rel => exact ⟨m, RR.next (fun h => absurd h hm), rfl, by rw [RR.count]; go_num⟩
            case measure => simp [intOf]; omega
          have hbm := byt_eq hm
          by_cases h32 : (byt s m == 32) = true
          · have H32 : Hid (byt s m = 32) := by show byt s m = 32; simpa using h32
            go_wp2_with fail
            go_round
            case rel => exact ⟨m + 1, by omega, by omega, by go_num, fun j h1 h2 => by
              by_cases e : j = m
              · rw [e]; exact H32.out
              · exact HSP.out j h1 (by omega)⟩
            case measure => simp [intOf]; omega
          have h32' : (byt s m == 32) = false := by simpa using h32
          have HS32 : Hid (byt s m ≠ 32) := by show byt s m ≠ 32; simpa using h32
          clear h32
          go_wp2_with fail
          clear hbm h32'
          go_loop [9] (fun i => ∃ q : Nat, m ≤ q ∧ q ≤ s.size ∧ i = .int .i64 q ∧ ∀ j, m ≤ j → j < q → blank (byt s j) = true) (fun i => s.size - (intOf i).toNat)
          case atStart => exact ⟨m, Nat.le_refl _, by omega, rfl, fun j h1 h2 => by omega⟩
          case round =>
            obtain ⟨q, qlo, qhi, rfl, hbq⟩ := hrel
            have HB : Hid (∀ j, m ≤ j → j < q → blank (byt s j) = true) := hbq
            clear hbq
            by_cases hq : q < s.size
            rotate_left
            · have RR : Round s pos k m q := ⟨HHk.out, hlt, H10.out, mlo, HSP.out, fun _ => HS32.out, qlo, qhi, HB.out, fun h => absurd h hq⟩
              have he : ((q : Int) == (s.size : Int)) = true := by simp; omega
              clear HB HS32 HSP HHk H10
              go_wp2_with fail
              go_round
              case rel => exact ⟨q, RR.next (fun h => absurd h hq), rfl, by rw [RR.count]; go_num⟩
              case measure => simp [intOf]; omega
            have hbq := byt_eq hq
            cases hbl : blank (byt s q) with
            | true =>
              go_wp2_with (first | (go_at_call 26; refine (isBlank_any _ _).mono ?_; rintro e w' ⟨rfl, rfl⟩) | (go_at_call 28; refine (isFlow_any _ _).mono ?_; rintro e w' ⟨rfl, rfl⟩) | (go_at_call 29; refine (plainSafe_any _ _ _).mono ?_; rintro e w' ⟨rfl, rfl⟩) | (go_at_call 30; refine (markerAt_at s _ (k + 1) b _ ?_ ?_ ?_ ?_).mono ?_; (first | omega | rfl); omega; assumption; assumption; rintro e w' ⟨rfl, rfl⟩))
              go_round
              case rel => exact ⟨q + 1, by omega, by omega, by go_num, all_snoc HB.out hbl⟩
              case measure => simp [intOf]; omega
            | false =>
              have RR : Round s pos k m q := ⟨HHk.out, hlt, H10.out, mlo, HSP.out, fun _ => HS32.out, qlo, qhi, HB.out, fun _ => hbl⟩
              have hneq : ((q : Int) == (s.size : Int)) = false := by simp; omega
              clear HB HS32 HSP HHk H10
              by_cases hq10 : (byt s q == 10) = true
              · have HQ : Hid (byt s q = 10) := by show byt s q = 10; simpa using hq10
                go_wp2_with (first | (go_at_call 26; refine (isBlank_any _ _).mono ?_; rintro e w' ⟨rfl, rfl⟩) | (go_at_call 28; refine (isFlow_any _ _).mono ?_; rintro e w' ⟨rfl, rfl⟩) | (go_at_call 29; refine (plainSafe_any _ _ _).mono ?_; rintro e w' ⟨rfl, rfl⟩) | (go_at_call 30; refine (markerAt_at s _ (k + 1) b _ ?_ ?_ ?_ ?_).mono ?_; (first | omega | rfl); omega; assumption; assumption; rintro e w' ⟨rfl, rfl⟩))
                go_round
                case rel => exact ⟨q, RR.next (fun _ => HQ.out), rfl, by rw [RR.count]; go_num⟩
                case measure => simp [intOf]; omega
              have hq10' : (byt s q == 10) = false := by simpa using hq10
              have HQ10 : Hid (byt s q ≠ 10) := by show byt s q ≠ 10; simpa using hq10
              clear hq10
              cases hm : marker s (k + 1) with
              | true =>
                have HR : PC s pos mi fl 0 0 false := RR.no hq HQ10.out (by simp [refused, vcol, hm])
                clear RR HQ10
                go_wp2_with (first | (go_at_call 26; refine (isBlank_any _ _).mono ?_; rintro e w' ⟨rfl, rfl⟩) | (go_at_call 28; refine (isFlow_any _ _).mono ?_; rintro e w' ⟨rfl, rfl⟩) | (go_at_call 29; refine (plainSafe_any _ _ _).mono ?_; rintro e w' ⟨rfl, rfl⟩) | (go_at_call 30; refine (markerAt_at s _ (k + 1) b _ ?_ ?_ ?_ ?_).mono ?_; (first | omega | rfl); omega; assumption; assumption; rintro e w' ⟨rfl, rfl⟩))
                go_ret3
                exact ⟨PCEnd.no HR, rfl⟩
              | false =>
                by_cases hind : (m : Int) - ((k : Int) + 1) < mi
                · have hind' : (((m - (k + 1) : Nat)) : Int) < mi := by omega
                  have HR : PC s pos mi fl 0 0 false := RR.no hq HQ10.out (by simp [refused, vcol, hind'])
                  clear RR HQ10
                  go_wp2_with (first | (go_at_call 26; refine (isBlank_any _ _).mono ?_; rintro e w' ⟨rfl, rfl⟩) | (go_at_call 28; refine (isFlow_any _ _).mono ?_; rintro e w' ⟨rfl, rfl⟩) | (go_at_call 29; refine (plainSafe_any _ _ _).mono ?_; rintro e w' ⟨rfl, rfl⟩) | (go_at_call 30; refine (markerAt_at s _ (k + 1) b _ ?_ ?_ ?_ ?_).mono ?_; (first | omega | rfl); omega; assumption; assumption; rintro e w' ⟨rfl, rfl⟩))
                  go_ret3
                  exact ⟨PCEnd.no HR, rfl⟩
                have hind' : ¬ (((m - (k + 1) : Nat)) : Int) < mi := by omega
                by_cases h35 : (byt s q == 35) = true
                · skip
                  have HR : PC s pos mi fl 0 0 false := RR.no hq HQ10.out (by simp [refused, vcol, h35])
                  clear RR HQ10
                  go_wp2_with (first | (go_at_call 26; refine (isBlank_any _ _).mono ?_; rintro e w' ⟨rfl, rfl⟩) | (go_at_call 28; refine (isFlow_any _ _).mono ?_; rintro e w' ⟨rfl, rfl⟩) | (go_at_call 29; refine (plainSafe_any _ _ _).mono ?_; rintro e w' ⟨rfl, rfl⟩) | (go_at_call 30; refine (markerAt_at s _ (k + 1) b _ ?_ ?_ ?_ ?_).mono ?_; (first | omega | rfl); omega; assumption; assumption; rintro e w' ⟨rfl, rfl⟩))
                  go_ret3
                  exact ⟨PCEnd.no HR, rfl⟩
                have h35' : (byt s q == 35) = false := by simpa using h35
                clear h35
                cases fl with
                | false =>
                  by_cases h58 : (byt s q == 58) = true
                  · by_cases hnx : q + 1 < s.size
                    · have hb1 := byt_eq hnx
                      have hne1 : ((q : Int) + 1 == (s.size : Int)) = false := by simp; omega
                      cases hg : goes (byt s (q + 1)) false with
                      | true =>
                        have HR : PC s pos mi false q (nls s pos k + 1) true := RR.yes hq HQ10.out (by simp [refused, vcol, hm, hind', h35', h58, hg])
                        clear RR HQ10
                        go_wp2_with (first | (go_at_call 26; refine (isBlank_any _ _).mono ?_; rintro e w' ⟨rfl, rfl⟩) | (go_at_call 28; refine (isFlow_any _ _).mono ?_; rintro e w' ⟨rfl, rfl⟩) | (go_at_call 29; refine (plainSafe_any _ _ _).mono ?_; rintro e w' ⟨rfl, rfl⟩) | (go_at_call 30; refine (markerAt_at s _ (k + 1) b _ ?_ ?_ ?_ ?_).mono ?_; (first | omega | rfl); omega; assumption; assumption; rintro e w' ⟨rfl, rfl⟩))
                        go_ret3
                        exact ⟨⟨q, nls s pos k + 1, true, by go_num, HR⟩, rfl⟩
                      | false =>
                        have HR : PC s pos mi false 0 0 false := RR.no hq HQ10.out (by simp [refused, vcol, hm, hind', h35', h58, hg])
                        clear RR HQ10
                        go_wp2_with (first | (go_at_call 26; refine (isBlank_any _ _).mono ?_; rintro e w' ⟨rfl, rfl⟩) | (go_at_call 28; refine (isFlow_any _ _).mono ?_; rintro e w' ⟨rfl, rfl⟩) | (go_at_call 29; refine (plainSafe_any _ _ _).mono ?_; rintro e w' ⟨rfl, rfl⟩) | (go_at_call 30; refine (markerAt_at s _ (k + 1) b _ ?_ ?_ ?_ ?_).mono ?_; (first | omega | rfl); omega; assumption; assumption; rintro e w' ⟨rfl, rfl⟩))
                        go_ret3
                        exact ⟨PCEnd.no HR, rfl⟩
                    · have he1 : ((q : Int) + 1 == (s.size : Int)) = true := by simp; omega
                      have HB : Hid (byt s (q + 1) = 0) := byt_end hnx
                      have HR : PC s pos mi false 0 0 false := RR.no hq HQ10.out (by simp [refused, vcol, hm, hind', h35', h58, HB.out, goes0])
                      clear RR HQ10
                      go_wp2_with (first | (go_at_call 26; refine (isBlank_any _ _).mono ?_; rintro e w' ⟨rfl, rfl⟩) | (go_at_call 28; refine (isFlow_any _ _).mono ?_; rintro e w' ⟨rfl, rfl⟩) | (go_at_call 29; refine (plainSafe_any _ _ _).mono ?_; rintro e w' ⟨rfl, rfl⟩) | (go_at_call 30; refine (markerAt_at s _ (k + 1) b _ ?_ ?_ ?_ ?_).mono ?_; (first | omega | rfl); omega; assumption; assumption; rintro e w' ⟨rfl, rfl⟩))
                      go_ret3
                      exact ⟨PCEnd.no HR, rfl⟩
                  · have h58' : (byt s q == 58) = false := by simpa using h58
                    clear h58
                    have HR : PC s pos mi false q (nls s pos k + 1) true := RR.yes hq HQ10.out (by simp [refused, vcol, hm, hind', h35', h58'])
                    clear RR HQ10
                    go_wp2_with (first | (go_at_call 26; refine (isBlank_any _ _).mono ?_; rintro e w' ⟨rfl, rfl⟩) | (go_at_call 28; refine (isFlow_any _ _).mono ?_; rintro e w' ⟨rfl, rfl⟩) | (go_at_call 29; refine (plainSafe_any _ _ _).mono ?_; rintro e w' ⟨rfl, rfl⟩) | (go_at_call 30; refine (markerAt_at s _ (k + 1) b _ ?_ ?_ ?_ ?_).mono ?_; (first | omega | rfl); omega; assumption; assumption; rintro e w' ⟨rfl, rfl⟩))
                    go_ret3
                    exact ⟨⟨q, nls s pos k + 1, true, by go_num, HR⟩, rfl⟩
                | true =>
                  cases hf : flow (byt s q) with
                  | true =>
                    have HR : PC s pos mi true 0 0 false := RR.no hq HQ10.out (by simp [refused, vcol, hf])
                    clear RR HQ10
                    go_wp2_with (first | (go_at_call 26; refine (isBlank_any _ _).mono ?_; rintro e w' ⟨rfl, rfl⟩) | (go_at_call 28; refine (isFlow_any _ _).mono ?_; rintro e w' ⟨rfl, rfl⟩) | (go_at_call 29; refine (plainSafe_any _ _ _).mono ?_; rintro e w' ⟨rfl, rfl⟩) | (go_at_call 30; refine (markerAt_at s _ (k + 1) b _ ?_ ?_ ?_ ?_).mono ?_; (first | omega | rfl); omega; assumption; assumption; rintro e w' ⟨rfl, rfl⟩))
                    go_ret3
                    exact ⟨PCEnd.no HR, rfl⟩
                  | false =>
                    by_cases h58 : (byt s q == 58) = true
                    · by_cases hnx : q + 1 < s.size
                      · have hb1 := byt_eq hnx
                        have hne1 : ((q : Int) + 1 == (s.size : Int)) = false := by simp; omega
                        cases hg : goes (byt s (q + 1)) true with
                        | true =>
                          have HR : PC s pos mi true q (nls s pos k + 1) true := RR.yes hq HQ10.out (by simp [refused, vcol, hm, hind', h35', hf, h58, hg])
                          clear RR HQ10
                          go_wp2_with (first | (go_at_call 26; refine (isBlank_any _ _).mono ?_; rintro e w' ⟨rfl, rfl⟩) | (go_at_call 28; refine (isFlow_any _ _).mono ?_; rintro e w' ⟨rfl, rfl⟩) | (go_at_call 29; refine (plainSafe_any _ _ _).mono ?_; rintro e w' ⟨rfl, rfl⟩) | (go_at_call 30; refine (markerAt_at s _ (k + 1) b _ ?_ ?_ ?_ ?_).mono ?_; (first | omega | rfl); omega; assumption; assumption; rintro e w' ⟨rfl, rfl⟩))
                          go_ret3
                          exact ⟨⟨q, nls s pos k + 1, true, by go_num, HR⟩, rfl⟩
                        | false =>
                          have HR : PC s pos mi true 0 0 false := RR.no hq HQ10.out (by simp [refused, vcol, hm, hind', h35', hf, h58, hg])
                          clear RR HQ10
                          go_wp2_with (first | (go_at_call 26; refine (isBlank_any _ _).mono ?_; rintro e w' ⟨rfl, rfl⟩) | (go_at_call 28; refine (isFlow_any _ _).mono ?_; rintro e w' ⟨rfl, rfl⟩) | (go_at_call 29; refine (plainSafe_any _ _ _).mono ?_; rintro e w' ⟨rfl, rfl⟩) | (go_at_call 30; refine (markerAt_at s _ (k + 1) b _ ?_ ?_ ?_ ?_).mono ?_; (first | omega | rfl); omega; assumption; assumption; rintro e w' ⟨rfl, rfl⟩))
                          go_ret3
                          exact ⟨PCEnd.no HR, rfl⟩
                      · have he1 : ((q : Int) + 1 == (s.size : Int)) = true := by simp; omega
                        have HB : Hid (byt s (q + 1) = 0) := byt_end hnx
                        have HR : PC s pos mi true 0 0 false := RR.no hq HQ10.out (by simp [refused, vcol, hm, hind', h35', hf, h58, HB.out, goes0])
                        clear RR HQ10
                        go_wp2_with (first | (go_at_call 26; refine (isBlank_any _ _).mono ?_; rintro e w' ⟨rfl, rfl⟩) | (go_at_call 28; refine (isFlow_any _ _).mono ?_; rintro e w' ⟨rfl, rfl⟩) | (go_at_call 29; refine (plainSafe_any _ _ _).mono ?_; rintro e w' ⟨rfl, rfl⟩) | (go_at_call 30; refine (markerAt_at s _ (k + 1) b _ ?_ ?_ ?_ ?_).mono ?_; (first | omega | rfl); omega; assumption; assumption; rintro e w' ⟨rfl, rfl⟩))
                        go_ret3
                        exact ⟨PCEnd.no HR, rfl⟩
                    · have h58' : (byt s q == 58) = false := by simpa using h58
                      clear h58
                      have HR : PC s pos mi true q (nls s pos k + 1) true := RR.yes hq HQ10.out (by simp [refused, vcol, hm, hind', h35', hf, h58'])
                      clear RR HQ10
                      go_wp2_with (first | (go_at_call 26; refine (isBlank_any _ _).mono ?_; rintro e w' ⟨rfl, rfl⟩) | (go_at_call 28; refine (isFlow_any _ _).mono ?_; rintro e w' ⟨rfl, rfl⟩) | (go_at_call 29; refine (plainSafe_any _ _ _).mono ?_; rintro e w' ⟨rfl, rfl⟩) | (go_at_call 30; refine (markerAt_at s _ (k + 1) b _ ?_ ?_ ?_ ?_).mono ?_; (first | omega | rfl); omega; assumption; assumption; rintro e w' ⟨rfl, rfl⟩))
                      go_ret3
                      exact ⟨⟨q, nls s pos k + 1, true, by go_num, HR⟩, rfl⟩
end Go.Proofs.Qxb6617432a
