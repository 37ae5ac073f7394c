import Derived.Test.Qxb6617428aTextTests
namespace Go.Proofs.Qxb6617428a
open Go.RowKit

set_option maxHeartbeats 1000000 in
/-- 'pathNamesFieldB1' at a path that has those steps. -/
theorem names_any (a b : Option Addr) (capa capb : Nat) (A B : List Step) (w : World) (ha : IsSteps w a A) (hb : IsSteps w b B)
    (hsz : A.length + B.length ≤ 4194304) (ns : List (Nat × Step)) (hns : ns.map Prod.snd = (A ++ B).reverse) (hch : Chain w ns) :
    Calls Try.prog 17 #[.pointer (ptr ns), .slice a A.length capa, .slice b B.length capb] w fun e w' => e = .returned (.bool true) ∧ Below w.heap.size w w' := by
  have hn : ns.length = A.length + B.length := by
    have := congrArg List.length hns
    simp at this
    omega
  have HN : Hid (ns.map Prod.snd = (A ++ B).reverse) := hns
  have HL : Hid (ns.length = A.length + B.length) := hn
  clear hns hn
  go_enter Try.func17, Try.ntmps17
  go_wp2
  go_loopw [0, 7] (fun p i wr => ∃ r : List (Nat × Step), p = .pointer (ptr r) ∧ i = .int .i64 ((r.length : Int) - 1) ∧ r.length ≤ A.length + B.length ∧ r.map Prod.snd = ((A ++ B).take r.length).reverse ∧ Chain wr r ∧ Below w.heap.size w wr) (fun _ i _ => (intOf i + 1).toNat)
  case atStart => exact ⟨ns, rfl, by rw [HL.out]; go_num, by rw [HL.out]; omega, by rw [HN.out, List.take_of_length_le (by simp [HL.out])], hch, Below.refl _ _⟩
  case round =>
    obtain ⟨r, rfl, rfl, hle, hmap, hchr, hbel⟩ := hrel
    match r, hle, hmap, hchr with
    | [], _, _, _ =>
      simp only [ptr_nil, List.length_nil]
      go_wp2
      go_ret
      exact ⟨rfl, hbel⟩
    | (k, s) :: r, hle, hmap, hchr =>
      obtain ⟨hs, hm⟩ := steps_at hmap (by simp at hle ⊢; omega)
      obtain ⟨hnode, hchr⟩ := hchr
      simp only [List.length_cons] at hle
      simp only [ptr_cons, List.length_cons]
      rw [show (((r.length + 1 : Nat)) : Int) - 1 = (r.length : Int) from by omega]
      simp only at hnode hs
      have hs' : (A ++ B ++ [])[r.length]? = some s := by rw [List.append_nil]; exact hs
      have HM : Hid (r.map Prod.snd = ((A ++ B).take r.length).reverse) := hm
      have ia := ha.below hbel
      have ib := hb.below hbel
      clear hmap hm hch ha hb HN HL hs
      go_wp2_with fail
      refine (stepAt_any a b none capa capb 0 A B [] wr ia ib (no_steps _) r.length s hs' (by omega)).mono ?_
      rintro e w1 ⟨rfl, hb1⟩
      have hnode1 := hnode.below hb1
      have hbel1 := hbel.trans (hb1.mono hbel.size)
      have halloc : Below w1.heap.size w1 (w1.alloc (.cells #[.string s.name, .bool s.sub, .bool s.key] 34)) := (Below.refl _ _).alloc (Nat.le_refl _) _
      have hend := hbel1.trans (halloc.mono hbel1.size)
      have hchr' := (hchr.below hb1).below halloc
      have hnode2 := hnode1.below halloc
      clear hb1 hnode hnode1 halloc hbel1 hbel hchr hs'
      go_wp2_with fail
      refine (zzstep_any k _ s _ hnode2).mono ?_
      rintro e w2 ⟨rfl, n, rfl⟩
      go_wp2_with fail
      refine (fields_any k _ s _ (hnode2.below (below_draws _ _ n))).mono ?_
      rintro e w3 ⟨rfl, m, rfl⟩
      go_wp2_with fail
      go_roundw
      case rel => exact ⟨r, rfl, rfl, by omega, HM.out, hchr'.below (below_draws _ _ _), below_drewN hend _⟩
      case measure => simp [intOf]
end Go.Proofs.Qxb6617428a
