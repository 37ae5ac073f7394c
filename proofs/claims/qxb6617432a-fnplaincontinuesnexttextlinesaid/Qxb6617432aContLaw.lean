import Derived.Test.Qxb6617432aContinues
import Derived.Test.Qxb6617432aGuards
namespace Go.Proofs.Qxb6617432a.fnPlainContinuesNextTextLine
open Go.RowKit

set_option maxHeartbeats 1000000 in
/-- 'ZZPlainContinues' -/
theorem zzContinues_any (s : ByteArray) (pos : Nat) (mi : Int) (fl : Bool) (w : World) (hp : pos ≤ s.size) (hs : s.size ≤ 1048576) :
    Calls Try.prog 19 #[.string s, .int .i64 pos, .int .i64 mi, .bool fl] w fun e w' => ∃ next br ok, e = .returned (.tuple #[.int .i64 (next : Nat), .int .i64 (br : Nat), .bool ok]) ∧ PC s pos mi fl next br ok ∧ Below w.heap.size w w' := by
  go_enter Try.func19, Try.ntmps19
  go_wp2_with fail
  refine (plainContinues_any s pos mi fl w.heap.size _ hp hs ?_ ?_).mono ?_
  · simp
  · simp
  rintro e w1 ⟨⟨next, br, ok, rfl, hpc⟩, rfl⟩
  go_wp2_with fail
  go_ret3
  exact ⟨next, br, ok, rfl, hpc, (Below.refl _ _).alloc (Nat.le_refl _) _⟩

theorem markerLineB_at (s : ByteArray) (x : Int) (k : Nat) (w : World) (hx : x = (k : Int)) (hk : k ≤ s.size) (hs : s.size ≤ 1048576) :
    Calls Try.prog 17 #[.string s, .int .i64 x] w fun e w' => e = .returned (.bool (marker s k)) ∧ w' = w := by
  subst hx
  exact markerLineB_any s k w hk hs

/-- Where the last line break so far lies, if there is one. -/
def LastI (s : ByteArray) (pos q : Nat) (l : Int) : Prop := nls s pos q = 0 ∨ ∃ lb : Nat, l = (lb : Int) ∧ Last s pos q (lb + 1)
theorem LastI.start (s : ByteArray) (pos : Nat) : LastI s pos pos (-1) := .inl (nls_self s pos)
theorem LastI.keep {s : ByteArray} {pos q : Nat} {l : Int} (hq : pos ≤ q) (h : LastI s pos q l) (hc : byt s q ≠ 10) : LastI s pos (q + 1) l := by
  rcases h with h | ⟨lb, rfl, h⟩
  · exact .inl (by rw [nls_miss s hq hc]; exact h)
  · exact .inr ⟨lb, rfl, h.keep hc⟩
theorem LastI.new {s : ByteArray} {pos q : Nat} (hq : pos ≤ q) (hc : byt s q = 10) : LastI s pos (q + 1) (q : Int) := .inr ⟨q, rfl, Last.new hq hc⟩

theorem soft_snoc {s : ByteArray} {pos k : Nat} (h : ∀ j, pos ≤ j → j < k → soft (byt s j) = true) (hk : soft (byt s k) = true) : ∀ j, pos ≤ j → j < k + 1 → soft (byt s j) = true := by
  intro j h1 h2
  by_cases e : j = k
  · rw [e]; exact hk
  · exact h j h1 (by omega)

set_option maxRecDepth 10000 in
set_option maxHeartbeats 4000000 in
theorem walk (s : ByteArray) (a1 mi : Int) (fl : Bool) (w : World) :
    Calls Try.prog 5 #[.string s, .int .i64 a1, .int .i64 mi, .bool fl] w fun e w' => e = .returned (.bool true) ∧ Below w.heap.size w w' := by
  by_cases hs : s.size ≤ 1048576
  rotate_left
  · go_enter Try.func5, Try.ntmps5
    go_wp2_with (go_at_call 16; refine (guardPC_no s a1 mi fl _ (by omega)).mono ?_; rintro e w' ⟨rfl, rfl⟩)
    go_ret
    exact ⟨rfl, Below.refl _ _⟩
  go_enter Try.func5, Try.ntmps5
  go_wp2_with fail
  refine (guardPC_yes s a1 mi fl w hs).mono ?_
  rintro e w' ⟨rfl, hw⟩
  subst hw
  by_cases h64 : s.size ≤ 65536
  rotate_left
  · go_wp2_with fail
    go_ret
    exact ⟨rfl, Below.refl _ _⟩
  by_cases hneg : a1 < 0
  · go_wp2_with fail
    go_ret
    exact ⟨rfl, Below.refl _ _⟩
  by_cases hbig : (s.size : Int) < a1
  · go_wp2_with fail
    go_ret
    exact ⟨rfl, Below.refl _ _⟩
  obtain ⟨pos, rfl⟩ : ∃ pos : Nat, a1 = (pos : Int) := ⟨a1.toNat, by omega⟩
  have hp : pos ≤ s.size := by omega
  have d1 : decide ((pos : Int) < 0) = false := decide_eq_false hneg
  have d2 : decide (s.size < pos) = false := decide_eq_false (by omega)
  have d3 : decide ((65536 : Int) < (s.size : Int)) = false := decide_eq_false (by omega)
  clear hneg hbig
  go_wp2_with fail
  clear d1 d2 d3
  go_loop [9] (fun c => ∃ k : Nat, pos ≤ k ∧ k ≤ s.size ∧ c = .int .i64 k ∧ ∀ j, pos ≤ j → j < k → soft (byt s j) = true) (fun c => s.size - (intOf c).toNat)
  case atStart => exact ⟨pos, Nat.le_refl _, hp, rfl, fun j h1 h2 => by omega⟩
  case round =>
    obtain ⟨k, hlo, hhi, rfl, hall⟩ := hrel
    have HA : Hid (∀ j, pos ≤ j → j < k → soft (byt s j) = true) := hall
    clear hall
    by_cases hlt : k < s.size
    rotate_left
    · have HF : First s pos k := ⟨hlo, hhi, HA.out, fun h => absurd h hlt⟩
      have HE : Hid (k = s.size) := by show k = s.size; omega
      clear HA
      go_wp2_with fail
      refine (zzContinues_any s pos mi fl _ hp hs).mono ?_
      rintro e w1 ⟨next, br, ok, rfl, hz, hb⟩
      obtain ⟨rfl, rfl, rfl⟩ := PC.none HF (.inl HE.out) hz
      go_wp2_with fail
      go_ret
      exact ⟨rfl, hb⟩
    have hbk := byt_eq hlt
    cases hbl : blank (byt s k) with
    | true =>
      go_wp2_with (go_at_call 8; refine (blankB_any _ _).mono ?_; rintro e w' ⟨rfl, rfl⟩)
      go_round
      case rel => exact ⟨k + 1, by omega, by omega, by go_num, soft_snoc HA.out (blank_soft hbl)⟩
      case measure => simp [intOf]; omega
    | false =>
      by_cases h10 : (byt s k == 10) = true
      · have HS : Hid (soft (byt s k) = true) := by show soft (byt s k) = true; simp [soft, h10]
        go_wp2_with (go_at_call 8; refine (blankB_any _ _).mono ?_; rintro e w' ⟨rfl, rfl⟩)
        go_round
        case rel => exact ⟨k + 1, by omega, by omega, by go_num, soft_snoc HA.out HS.out⟩
        case measure => simp [intOf]; omega
      have h10' : (byt s k == 10) = false := by simpa using h10
      have HF : First s pos k := ⟨hlo, hhi, HA.out, fun _ => by simp [soft, hbl]; simpa using h10⟩
      clear HA h10
      go_wp2_with (go_at_call 8; refine (blankB_any _ _).mono ?_; rintro e w' ⟨rfl, rfl⟩)
      clear hbl h10' hbk
      go_loop [13, 14, 15] (fun c l j => ∃ q : Nat, pos ≤ q ∧ q ≤ k ∧ j = .int .i64 q ∧ c = .int .i64 (nls s pos q : Nat) ∧ ∃ li : Int, l = .int .i64 li ∧ LastI s pos q li) (fun _ _ j => k - (intOf j).toNat)
      case atStart => exact ⟨pos, Nat.le_refl _, hlo, rfl, by rw [nls_self]; rfl, -1, rfl, LastI.start s pos⟩
      case round =>
        obtain ⟨q, qlo, qhi, rfl, rfl, li, rfl, hli⟩ := hrel
        have HLI : Hid (LastI s pos q li) := hli
        clear hli
        have hnls : nls s pos q ≤ 1048576 := Nat.le_trans (nls_le s pos q) (by omega)
        by_cases hq : q < k
        · have hbq := byt_eq (show q < s.size by omega)
          by_cases h10 : (byt s q == 10) = true
          · have H10 : Hid (byt s q = 10) := by show byt s q = 10; simpa using h10
            go_wp2_with fail
            go_round
            case rel => exact ⟨q + 1, by omega, by omega, by go_num, by rw [nls_hit s qlo H10.out]; go_num, _, rfl, LastI.new qlo H10.out⟩
            case measure => simp [intOf]; omega
          · have h10' : (byt s q == 10) = false := by simpa using h10
            have H10 : Hid (byt s q ≠ 10) := by show byt s q ≠ 10; simpa using h10
            clear h10
            go_wp2_with fail
            go_round
            case rel => exact ⟨q + 1, by omega, by omega, by go_num, by rw [nls_miss s qlo H10.out], li, rfl, LastI.keep qlo HLI.out H10.out⟩
            case measure => simp [intOf]; omega
        have hqk : q = k := by omega
        subst hqk
        by_cases h0 : nls s pos q = 0
        · have HZ : Hid (nls s pos q = 0) := h0
          have hle : nls s pos q ≤ 0 := by omega
          clear h0
          go_wp2_with fail
          refine (zzContinues_any s pos mi fl _ hp hs).mono ?_
          rintro e w1 ⟨next, br, ok, rfl, hz, hb⟩
          obtain ⟨rfl, rfl, rfl⟩ := PC.none HF (.inr HZ.out) hz
          go_wp2_with fail
          go_ret
          exact ⟨rfl, hb⟩
        have hpos : 0 < nls s pos q := by omega
        obtain ⟨lb, hlb, HL⟩ : ∃ lb : Nat, li = (lb : Int) ∧ Last s pos q (lb + 1) := by
          rcases HLI.out with h | h
          · exact absurd h h0
          · exact h
        subst hlb
        clear HLI h0
        have l1 := HL.lo
        have l2 := HL.hi
        go_wp2_with fail
        go_loop [17] (fun d => ∃ n : Nat, lb + 1 + n ≤ q ∧ d = .int .i64 n ∧ ∀ j, lb + 1 ≤ j → j < lb + 1 + n → byt s j = 32) (fun d => q - (intOf d).toNat)
        case atStart => exact ⟨0, by omega, rfl, fun j h1 h2 => by omega⟩
        case round =>
          obtain ⟨n, nhi, rfl, hsp⟩ := hrel
          have HSP : Hid (∀ j, lb + 1 ≤ j → j < lb + 1 + n → byt s j = 32) := hsp
          clear hsp
          by_cases hn : lb + 1 + n < q
          · have hbn := byt_eq (show lb + 1 + n < s.size by omega)
            by_cases h32 : (byt s (lb + 1 + n) == 32) = true
            · have H32 : Hid (byt s (lb + 1 + n) = 32) := by show byt s (lb + 1 + n) = 32; simpa using h32
              go_wp2_with fail
              go_round
              case rel => exact ⟨n + 1, by omega, by go_num, fun j h1 h2 => by
                by_cases e : j = lb + 1 + n
                · rw [e]; exact H32.out
                · exact HSP.out j h1 (by omega)⟩
              case measure => simp [intOf]; omega
            have h32' : (byt s (lb + 1 + n) == 32) = false := by simpa using h32
            have HI : Indent s (lb + 1) q n := ⟨nhi, HSP.out, fun _ => by simpa using h32⟩
            clear HSP h32
            have hbq := byt_eq hlt
            cases hm : marker s (lb + 1) with
            | true =>
              have HR : refused s (lb + 1) q n mi fl = true := by simp [refused, hm]
              go_wp2_with (first | (go_at_call 17; refine (markerLineB_at s _ (lb + 1) _ ?_ ?_ ?_).mono ?_; (first | rfl | omega); omega; assumption; rintro e w' ⟨rfl, rfl⟩) | (go_at_call 10; refine (flowB_any _ _).mono ?_; rintro e w' ⟨rfl, rfl⟩) | (go_at_call 18; refine (valueColonB_any s q _ _ ?_ ?_).mono ?_; assumption; assumption; rintro e w' ⟨rfl, rfl⟩))
              refine (zzContinues_any s pos mi _ _ hp hs).mono ?_
              rintro e w1 ⟨next, br, ok, rfl, hz, hb⟩
              obtain ⟨rfl, rfl, rfl⟩ := PC.ref HF HL HI HR hz
              go_wp2_with fail
              go_ret
              exact ⟨rfl, hb⟩
            | false =>
              by_cases hind : (n : Int) < mi
              · skip
                have HR : refused s (lb + 1) q n mi fl = true := by simp [refused, hind]
                go_wp2_with (first | (go_at_call 17; refine (markerLineB_at s _ (lb + 1) _ ?_ ?_ ?_).mono ?_; (first | rfl | omega); omega; assumption; rintro e w' ⟨rfl, rfl⟩) | (go_at_call 10; refine (flowB_any _ _).mono ?_; rintro e w' ⟨rfl, rfl⟩) | (go_at_call 18; refine (valueColonB_any s q _ _ ?_ ?_).mono ?_; assumption; assumption; rintro e w' ⟨rfl, rfl⟩))
                refine (zzContinues_any s pos mi _ _ hp hs).mono ?_
                rintro e w1 ⟨next, br, ok, rfl, hz, hb⟩
                obtain ⟨rfl, rfl, rfl⟩ := PC.ref HF HL HI HR hz
                go_wp2_with fail
                go_ret
                exact ⟨rfl, hb⟩
              have hdi : decide ((n : Int) < mi) = false := decide_eq_false hind
              by_cases h35 : (byt s q == 35) = true
              · skip
                have HR : refused s (lb + 1) q n mi fl = true := by simp [refused, h35]
                go_wp2_with (first | (go_at_call 17; refine (markerLineB_at s _ (lb + 1) _ ?_ ?_ ?_).mono ?_; (first | rfl | omega); omega; assumption; rintro e w' ⟨rfl, rfl⟩) | (go_at_call 10; refine (flowB_any _ _).mono ?_; rintro e w' ⟨rfl, rfl⟩) | (go_at_call 18; refine (valueColonB_any s q _ _ ?_ ?_).mono ?_; assumption; assumption; rintro e w' ⟨rfl, rfl⟩))
                refine (zzContinues_any s pos mi _ _ hp hs).mono ?_
                rintro e w1 ⟨next, br, ok, rfl, hz, hb⟩
                obtain ⟨rfl, rfl, rfl⟩ := PC.ref HF HL HI HR hz
                go_wp2_with fail
                go_ret
                exact ⟨rfl, hb⟩
              have h35' : (byt s q == 35) = false := by simpa using h35
              clear h35
              cases fl with
              | false =>
                cases hv : vcol s q false with
                | true =>
                  have HR : refused s (lb + 1) q n mi false = true := by simp [refused, hm, hind, h35', hv]
                  go_wp2_with (first | (go_at_call 17; refine (markerLineB_at s _ (lb + 1) _ ?_ ?_ ?_).mono ?_; (first | rfl | omega); omega; assumption; rintro e w' ⟨rfl, rfl⟩) | (go_at_call 10; refine (flowB_any _ _).mono ?_; rintro e w' ⟨rfl, rfl⟩) | (go_at_call 18; refine (valueColonB_any s q _ _ ?_ ?_).mono ?_; assumption; assumption; rintro e w' ⟨rfl, rfl⟩))
                  refine (zzContinues_any s pos mi _ _ hp hs).mono ?_
                  rintro e w1 ⟨next, br, ok, rfl, hz, hb⟩
                  obtain ⟨rfl, rfl, rfl⟩ := PC.ref HF HL HI HR hz
                  go_wp2_with fail
                  go_ret
                  exact ⟨rfl, hb⟩
                | false =>
                  have HR : refused s (lb + 1) q n mi false = false := by simp [refused, hm, hind, h35', hv]
                  go_wp2_with (first | (go_at_call 17; refine (markerLineB_at s _ (lb + 1) _ ?_ ?_ ?_).mono ?_; (first | rfl | omega); omega; assumption; rintro e w' ⟨rfl, rfl⟩) | (go_at_call 10; refine (flowB_any _ _).mono ?_; rintro e w' ⟨rfl, rfl⟩) | (go_at_call 18; refine (valueColonB_any s q _ _ ?_ ?_).mono ?_; assumption; assumption; rintro e w' ⟨rfl, rfl⟩))
                  refine (zzContinues_any s pos mi _ _ hp hs).mono ?_
                  rintro e w1 ⟨next, br, ok, rfl, hz, hb⟩
                  obtain ⟨rfl, rfl, rfl⟩ := PC.go HF hlt HL HI HR hz
                  go_wp2_with fail
                  go_ret
                  exact ⟨rfl, hb⟩
              | true =>
                cases hf : flow (byt s q) with
                | true =>
                  have HR : refused s (lb + 1) q n mi true = true := by simp [refused, hf]
                  go_wp2_with (first | (go_at_call 17; refine (markerLineB_at s _ (lb + 1) _ ?_ ?_ ?_).mono ?_; (first | rfl | omega); omega; assumption; rintro e w' ⟨rfl, rfl⟩) | (go_at_call 10; refine (flowB_any _ _).mono ?_; rintro e w' ⟨rfl, rfl⟩) | (go_at_call 18; refine (valueColonB_any s q _ _ ?_ ?_).mono ?_; assumption; assumption; rintro e w' ⟨rfl, rfl⟩))
                  refine (zzContinues_any s pos mi _ _ hp hs).mono ?_
                  rintro e w1 ⟨next, br, ok, rfl, hz, hb⟩
                  obtain ⟨rfl, rfl, rfl⟩ := PC.ref HF HL HI HR hz
                  go_wp2_with fail
                  go_ret
                  exact ⟨rfl, hb⟩
                | false =>
                  cases hv : vcol s q true with
                  | true =>
                    have HR : refused s (lb + 1) q n mi true = true := by simp [refused, hm, hind, h35', hf, hv]
                    go_wp2_with (first | (go_at_call 17; refine (markerLineB_at s _ (lb + 1) _ ?_ ?_ ?_).mono ?_; (first | rfl | omega); omega; assumption; rintro e w' ⟨rfl, rfl⟩) | (go_at_call 10; refine (flowB_any _ _).mono ?_; rintro e w' ⟨rfl, rfl⟩) | (go_at_call 18; refine (valueColonB_any s q _ _ ?_ ?_).mono ?_; assumption; assumption; rintro e w' ⟨rfl, rfl⟩))
                    refine (zzContinues_any s pos mi _ _ hp hs).mono ?_
                    rintro e w1 ⟨next, br, ok, rfl, hz, hb⟩
                    obtain ⟨rfl, rfl, rfl⟩ := PC.ref HF HL HI HR hz
                    go_wp2_with fail
                    go_ret
                    exact ⟨rfl, hb⟩
                  | false =>
                    have HR : refused s (lb + 1) q n mi true = false := by simp [refused, hm, hind, h35', hf, hv]
                    go_wp2_with (first | (go_at_call 17; refine (markerLineB_at s _ (lb + 1) _ ?_ ?_ ?_).mono ?_; (first | rfl | omega); omega; assumption; rintro e w' ⟨rfl, rfl⟩) | (go_at_call 10; refine (flowB_any _ _).mono ?_; rintro e w' ⟨rfl, rfl⟩) | (go_at_call 18; refine (valueColonB_any s q _ _ ?_ ?_).mono ?_; assumption; assumption; rintro e w' ⟨rfl, rfl⟩))
                    refine (zzContinues_any s pos mi _ _ hp hs).mono ?_
                    rintro e w1 ⟨next, br, ok, rfl, hz, hb⟩
                    obtain ⟨rfl, rfl, rfl⟩ := PC.go HF hlt HL HI HR hz
                    go_wp2_with fail
                    go_ret
                    exact ⟨rfl, hb⟩
          · have HI : Indent s (lb + 1) q n := ⟨nhi, HSP.out, fun h => absurd h hn⟩
            clear HSP
            have hbq := byt_eq hlt
            cases hm : marker s (lb + 1) with
            | true =>
              have HR : refused s (lb + 1) q n mi fl = true := by simp [refused, hm]
              go_wp2_with (first | (go_at_call 17; refine (markerLineB_at s _ (lb + 1) _ ?_ ?_ ?_).mono ?_; (first | rfl | omega); omega; assumption; rintro e w' ⟨rfl, rfl⟩) | (go_at_call 10; refine (flowB_any _ _).mono ?_; rintro e w' ⟨rfl, rfl⟩) | (go_at_call 18; refine (valueColonB_any s q _ _ ?_ ?_).mono ?_; assumption; assumption; rintro e w' ⟨rfl, rfl⟩))
              refine (zzContinues_any s pos mi _ _ hp hs).mono ?_
              rintro e w1 ⟨next, br, ok, rfl, hz, hb⟩
              obtain ⟨rfl, rfl, rfl⟩ := PC.ref HF HL HI HR hz
              go_wp2_with fail
              go_ret
              exact ⟨rfl, hb⟩
            | false =>
              by_cases hind : (n : Int) < mi
              · skip
                have HR : refused s (lb + 1) q n mi fl = true := by simp [refused, hind]
                go_wp2_with (first | (go_at_call 17; refine (markerLineB_at s _ (lb + 1) _ ?_ ?_ ?_).mono ?_; (first | rfl | omega); omega; assumption; rintro e w' ⟨rfl, rfl⟩) | (go_at_call 10; refine (flowB_any _ _).mono ?_; rintro e w' ⟨rfl, rfl⟩) | (go_at_call 18; refine (valueColonB_any s q _ _ ?_ ?_).mono ?_; assumption; assumption; rintro e w' ⟨rfl, rfl⟩))
                refine (zzContinues_any s pos mi _ _ hp hs).mono ?_
                rintro e w1 ⟨next, br, ok, rfl, hz, hb⟩
                obtain ⟨rfl, rfl, rfl⟩ := PC.ref HF HL HI HR hz
                go_wp2_with fail
                go_ret
                exact ⟨rfl, hb⟩
              have hdi : decide ((n : Int) < mi) = false := decide_eq_false hind
              by_cases h35 : (byt s q == 35) = true
              · skip
                have HR : refused s (lb + 1) q n mi fl = true := by simp [refused, h35]
                go_wp2_with (first | (go_at_call 17; refine (markerLineB_at s _ (lb + 1) _ ?_ ?_ ?_).mono ?_; (first | rfl | omega); omega; assumption; rintro e w' ⟨rfl, rfl⟩) | (go_at_call 10; refine (flowB_any _ _).mono ?_; rintro e w' ⟨rfl, rfl⟩) | (go_at_call 18; refine (valueColonB_any s q _ _ ?_ ?_).mono ?_; assumption; assumption; rintro e w' ⟨rfl, rfl⟩))
                refine (zzContinues_any s pos mi _ _ hp hs).mono ?_
                rintro e w1 ⟨next, br, ok, rfl, hz, hb⟩
                obtain ⟨rfl, rfl, rfl⟩ := PC.ref HF HL HI HR hz
                go_wp2_with fail
                go_ret
                exact ⟨rfl, hb⟩
              have h35' : (byt s q == 35) = false := by simpa using h35
              clear h35
              cases fl with
              | false =>
                cases hv : vcol s q false with
                | true =>
                  have HR : refused s (lb + 1) q n mi false = true := by simp [refused, hm, hind, h35', hv]
                  go_wp2_with (first | (go_at_call 17; refine (markerLineB_at s _ (lb + 1) _ ?_ ?_ ?_).mono ?_; (first | rfl | omega); omega; assumption; rintro e w' ⟨rfl, rfl⟩) | (go_at_call 10; refine (flowB_any _ _).mono ?_; rintro e w' ⟨rfl, rfl⟩) | (go_at_call 18; refine (valueColonB_any s q _ _ ?_ ?_).mono ?_; assumption; assumption; rintro e w' ⟨rfl, rfl⟩))
                  refine (zzContinues_any s pos mi _ _ hp hs).mono ?_
                  rintro e w1 ⟨next, br, ok, rfl, hz, hb⟩
                  obtain ⟨rfl, rfl, rfl⟩ := PC.ref HF HL HI HR hz
                  go_wp2_with fail
                  go_ret
                  exact ⟨rfl, hb⟩
                | false =>
                  have HR : refused s (lb + 1) q n mi false = false := by simp [refused, hm, hind, h35', hv]
                  go_wp2_with (first | (go_at_call 17; refine (markerLineB_at s _ (lb + 1) _ ?_ ?_ ?_).mono ?_; (first | rfl | omega); omega; assumption; rintro e w' ⟨rfl, rfl⟩) | (go_at_call 10; refine (flowB_any _ _).mono ?_; rintro e w' ⟨rfl, rfl⟩) | (go_at_call 18; refine (valueColonB_any s q _ _ ?_ ?_).mono ?_; assumption; assumption; rintro e w' ⟨rfl, rfl⟩))
                  refine (zzContinues_any s pos mi _ _ hp hs).mono ?_
                  rintro e w1 ⟨next, br, ok, rfl, hz, hb⟩
                  obtain ⟨rfl, rfl, rfl⟩ := PC.go HF hlt HL HI HR hz
                  go_wp2_with fail
                  go_ret
                  exact ⟨rfl, hb⟩
              | true =>
                cases hf : flow (byt s q) with
                | true =>
                  have HR : refused s (lb + 1) q n mi true = true := by simp [refused, hf]
                  go_wp2_with (first | (go_at_call 17; refine (markerLineB_at s _ (lb + 1) _ ?_ ?_ ?_).mono ?_; (first | rfl | omega); omega; assumption; rintro e w' ⟨rfl, rfl⟩) | (go_at_call 10; refine (flowB_any _ _).mono ?_; rintro e w' ⟨rfl, rfl⟩) | (go_at_call 18; refine (valueColonB_any s q _ _ ?_ ?_).mono ?_; assumption; assumption; rintro e w' ⟨rfl, rfl⟩))
                  refine (zzContinues_any s pos mi _ _ hp hs).mono ?_
                  rintro e w1 ⟨next, br, ok, rfl, hz, hb⟩
                  obtain ⟨rfl, rfl, rfl⟩ := PC.ref HF HL HI HR hz
                  go_wp2_with fail
                  go_ret
                  exact ⟨rfl, hb⟩
                | false =>
                  cases hv : vcol s q true with
                  | true =>
                    have HR : refused s (lb + 1) q n mi true = true := by simp [refused, hm, hind, h35', hf, hv]
                    go_wp2_with (first | (go_at_call 17; refine (markerLineB_at s _ (lb + 1) _ ?_ ?_ ?_).mono ?_; (first | rfl | omega); omega; assumption; rintro e w' ⟨rfl, rfl⟩) | (go_at_call 10; refine (flowB_any _ _).mono ?_; rintro e w' ⟨rfl, rfl⟩) | (go_at_call 18; refine (valueColonB_any s q _ _ ?_ ?_).mono ?_; assumption; assumption; rintro e w' ⟨rfl, rfl⟩))
                    refine (zzContinues_any s pos mi _ _ hp hs).mono ?_
                    rintro e w1 ⟨next, br, ok, rfl, hz, hb⟩
                    obtain ⟨rfl, rfl, rfl⟩ := PC.ref HF HL HI HR hz
                    go_wp2_with fail
                    go_ret
                    exact ⟨rfl, hb⟩
                  | false =>
                    have HR : refused s (lb + 1) q n mi true = false := by simp [refused, hm, hind, h35', hf, hv]
                    go_wp2_with (first | (go_at_call 17; refine (markerLineB_at s _ (lb + 1) _ ?_ ?_ ?_).mono ?_; (first | rfl | omega); omega; assumption; rintro e w' ⟨rfl, rfl⟩) | (go_at_call 10; refine (flowB_any _ _).mono ?_; rintro e w' ⟨rfl, rfl⟩) | (go_at_call 18; refine (valueColonB_any s q _ _ ?_ ?_).mono ?_; assumption; assumption; rintro e w' ⟨rfl, rfl⟩))
                    refine (zzContinues_any s pos mi _ _ hp hs).mono ?_
                    rintro e w1 ⟨next, br, ok, rfl, hz, hb⟩
                    obtain ⟨rfl, rfl, rfl⟩ := PC.go HF hlt HL HI HR hz
                    go_wp2_with fail
                    go_ret
                    exact ⟨rfl, hb⟩
end Go.Proofs.Qxb6617432a.fnPlainContinuesNextTextLine
