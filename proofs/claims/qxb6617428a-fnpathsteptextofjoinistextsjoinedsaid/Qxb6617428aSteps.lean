import Derived.Test.Qxb6617428aW2
namespace Go.Proofs.Qxb6617428a
open Go.RowKit

theorem below_draws (B : Nat) (w : World) (n : Nat) : Below B w (w.drewN n) := below_drewN (Below.refl _ _) n

set_option maxHeartbeats 1000000 in
/-- 'stepAtFieldB1' -/
theorem stepAt_any (a b c : Option Addr) (capa capb capc : Nat) (A B C : List Step) (w : World) (ha : IsSteps w a A) (hb : IsSteps w b B) (hc : IsSteps w c C) (i : Nat) (s : Step)
    (hs : (A ++ B ++ C)[i]? = some s) (_h64 : i ≤ 4194304) :
    Calls Try.prog 19 #[.slice a A.length capa, .slice b B.length capb, .slice c C.length capc, .int .i64 i] w fun e w' => e = .returned (.agg #[.string s.name, .bool s.sub, .bool s.key]) ∧ Below w.heap.size w w' := by
  have la := ha.len
  have lb := hb.len
  have lc := hc.len
  unfold maxLen at la lb lc
  have hi : i < (A ++ B ++ C).length := by
    by_cases h : i < (A ++ B ++ C).length
    · exact h
    · rw [List.getElem?_eq_none (by omega)] at hs; cases hs
  simp only [List.length_append] at hi
  by_cases h1 : i < A.length
  · obtain ⟨k, off, rfl, h0, h1, h2⟩ := ha.cells i s (by rw [← hs, List.append_assoc, List.getElem?_append_left h1])
    have hk : k < w.heap.size := cell_lt h0
    clear ha hb hc hs
    go_enter Try.func19, Try.ntmps19
    go_wp2
    exact bodyPost_ret (v := .agg #[.string s.name, .bool s.sub, .bool s.key]) (by simp [results, Try.results19, go_sem]) rfl ⟨rfl, ((Below.refl _ _).alloc (Nat.le_refl _) _)⟩
  by_cases h2 : i < A.length + B.length
  · obtain ⟨k, off, rfl, h0, h1, h2⟩ := hb.cells (i - A.length) s (by rw [← hs, List.append_assoc, List.getElem?_append_right (by omega), List.getElem?_append_left (by omega)])
    have hk : k < w.heap.size := cell_lt h0
    clear ha hb hc hs
    go_enter Try.func19, Try.ntmps19
    go_wp2
    exact bodyPost_ret (v := .agg #[.string s.name, .bool s.sub, .bool s.key]) (by simp [results, Try.results19, go_sem]) rfl ⟨rfl, ((Below.refl _ _).alloc (Nat.le_refl _) _)⟩
  · obtain ⟨k, off, rfl, h0, h1, h2⟩ := hc.cells (i - A.length - B.length) s (by rw [← hs, List.append_assoc, List.getElem?_append_right (by omega), List.getElem?_append_right (by omega)])
    have hk : k < w.heap.size := cell_lt h0
    clear ha hb hc hs
    go_enter Try.func19, Try.ntmps19
    go_wp2
    exact bodyPost_ret (v := .agg #[.string s.name, .bool s.sub, .bool s.key]) (by simp [results, Try.results19, go_sem]) rfl ⟨rfl, ((Below.refl _ _).alloc (Nat.le_refl _) _)⟩

/-- The steps of a path from the root, by the loop's counter: with 'k + 1' steps still to come the leaf's step is step k. -/
theorem steps_at {L : List Step} {n : Nat × Step} {ns : List (Nat × Step)} (h : (n :: ns).map Prod.snd = (L.take (ns.length + 1)).reverse) (hlen : ns.length + 1 ≤ L.length) : L[ns.length]? = some n.2 ∧ ns.map Prod.snd = (L.take ns.length).reverse := by
  have hlt : ns.length < L.length := by omega
  rw [List.take_succ_eq_append_getElem hlt, List.reverse_append, List.map_cons] at h
  simp only [List.reverse_cons, List.reverse_nil, List.nil_append, List.cons_append, List.cons.injEq] at h
  exact ⟨by rw [List.getElem?_eq_getElem hlt, h.1], h.2⟩

set_option maxHeartbeats 1000000 in
/-- 'pathIsStepsFieldB1' at a path that has those steps. -/
theorem isSteps_any (a b c : Option Addr) (capa capb capc : Nat) (A B C : List Step) (w : World) (ha : IsSteps w a A) (hb : IsSteps w b B) (hc : IsSteps w c C)
    (hsz : A.length + B.length + C.length ≤ 4194304) (ns : List (Nat × Step)) (hns : ns.map Prod.snd = (A ++ B ++ C).reverse) (hch : Chain w ns) :
    Calls Try.prog 10 #[.pointer (ptr ns), .slice a A.length capa, .slice b B.length capb, .slice c C.length capc] w fun e w' => e = .returned (.bool true) ∧ Below w.heap.size w w' := by
  have hn : ns.length = A.length + B.length + C.length := by
    have := congrArg List.length hns
    simp at this
    omega
  have HN : Hid (ns.map Prod.snd = (A ++ B ++ C).reverse) := hns
  have HL : Hid (ns.length = A.length + B.length + C.length) := hn
  clear hns hn
  go_enter Try.func10, Try.ntmps10
  go_wp2
  go_loopw [0, 9] (fun p i wr => ∃ r : List (Nat × Step), p = .pointer (ptr r) ∧ i = .int .i64 ((r.length : Int) - 1) ∧ r.length ≤ A.length + B.length + C.length ∧ r.map Prod.snd = ((A ++ B ++ C).take r.length).reverse ∧ Chain wr r ∧ Below w.heap.size w wr) (fun _ i _ => (intOf i + 1).toNat)
  case atStart => exact ⟨ns, rfl, by rw [HL.out]; go_num, by rw [HL.out]; omega, by rw [HN.out, List.take_of_length_le (by simp [HL.out]; omega)], hch, Below.refl _ _⟩
  case round =>
    obtain ⟨r, rfl, rfl, hle, hmap, hchr, hbel⟩ := hrel
    match r, hle, hmap, hchr with
    | [], _, _, _ =>
      simp only [ptr_nil, List.length_nil]
      go_wp2
      go_ret
      exact ⟨rfl, hbel⟩
    | (k, s) :: r, hle, hmap, hchr =>
      obtain ⟨hs, hm⟩ := steps_at hmap (by simp at hle ⊢; omega)
      obtain ⟨hnode, hchr⟩ := hchr
      simp only [List.length_cons] at hle
      simp only [ptr_cons, List.length_cons]
      rw [show (((r.length + 1 : Nat)) : Int) - 1 = (r.length : Int) from by omega]
      simp only at hnode hs
      have HM : Hid (r.map Prod.snd = ((A ++ B ++ C).take r.length).reverse) := hm
      have ia := ha.below hbel
      have ib := hb.below hbel
      have ic := hc.below hbel
      clear hmap hm hch ha hb hc HN HL
      go_wp2_with fail
      refine (stepAt_any a b c capa capb capc A B C wr ia ib ic r.length s hs (by omega)).mono ?_
      rintro e w1 ⟨rfl, hb1⟩
      have hnode1 := hnode.below hb1
      have hbel1 := hbel.trans (hb1.mono hbel.size)
      have halloc : Below w1.heap.size w1 (w1.alloc (.cells #[.string s.name, .bool s.sub, .bool s.key] 34)) := (Below.refl _ _).alloc (Nat.le_refl _) _
      have hend := hbel1.trans (halloc.mono hbel1.size)
      have hchr' := (hchr.below hb1).below halloc
      go_wp2_with fail
      refine (fields_any k _ s _ (hnode1.below halloc)).mono ?_
      rintro e w2 ⟨rfl, n, rfl⟩
      clear hb1 hnode hnode1 halloc hbel1 hbel hchr
      go_wp2
      go_roundw
      case rel => exact ⟨r, rfl, rfl, by omega, HM.out, hchr'.below (below_draws _ _ n), hend.trans ((below_draws _ _ n).mono hend.size)⟩
      case measure => simp [intOf]

set_option maxHeartbeats 1000000 in
/-- 'pathUpFieldB1': behind as many rounds as there are nodes ahead. -/
theorem up_any (ms ns : List (Nat × Step)) (w : World) (hch : Chain w (ms ++ ns)) (hsz : ms.length ≤ 4194304) :
    Calls Try.prog 11 #[.pointer (ptr (ms ++ ns)), .int .i64 ms.length] w fun e w' => e = .returned (.pointer (ptr ns)) ∧ Below w.heap.size w w' := by
  have HC : Hid (Chain w (ms ++ ns)) := hch
  clear hch
  go_enter Try.func11, Try.ntmps11
  go_wp2
  go_loopw [0, 5] (fun p i wr => ∃ r : List (Nat × Step), p = .pointer (ptr (r ++ ns)) ∧ ∃ k : Nat, k + r.length = ms.length ∧ i = .int .i64 k ∧ Chain wr (r ++ ns) ∧ Below w.heap.size w wr) (fun _ i _ => ms.length - (intOf i).toNat)
  case atStart => exact ⟨ms, rfl, 0, by omega, rfl, HC.out, Below.refl _ _⟩
  case round =>
    obtain ⟨r, rfl, k, hk, rfl, hchr, hbel⟩ := hrel
    have HK : Hid (k + r.length = ms.length) := hk
    match r, hk, hchr, HK with
    | [], hk, hchr, HK =>
      have hge : ms.length ≤ k := by simp at hk; omega
      clear hk
      simp only [List.nil_append]
      go_wp2
      go_ret
      exact ⟨rfl, hbel⟩
    | (c, s) :: r, hk, hchr, HK =>
      have hlt : k < ms.length := by simp at hk; omega
      clear hk
      obtain ⟨hnode, hchr⟩ := hchr
      simp only [List.cons_append, ptr_cons]
      go_wp2_with fail
      refine (fields_any c _ s _ hnode).mono ?_
      rintro e w2 ⟨rfl, n, rfl⟩
      go_wp2
      go_roundw
      case rel => exact ⟨r, rfl, k + 1, by have := HK.out; simp at this ⊢; omega, by go_num, Chain.below (below_draws _ _ n) hchr, hbel.trans ((below_draws _ _ n).mono hbel.size)⟩
      case measure => simp [intOf]; omega
end Go.Proofs.Qxb6617428a
