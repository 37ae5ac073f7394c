import Derived.Test.Qxb6617428aBuild
import Derived.Test.Qxb6617428aJoin
import Derived.Test.Qxb6617428aSteps
import Derived.Test.Qxb6617428aGuard3
import Derived.LaidEqlPtr
namespace Go.Proofs.Qxb6617428a.fnPathJoinIsAssociative
open Go.RowKit

theorem info40some : (Try.prog.info? 40).isSome = true := by kernel_rfl
theorem info40 : ∃ j, Try.prog.info? 40 = some j := Option.isSome_iff_exists.1 info40some

theorem eq_ptr (q : Option Addr) (w : World) : (binOp .eql 25 (.pointer q) (.pointer q)).run Try.prog w = .ok (.bool true) w := by
  rcases q with _ | q
  · exact run_eql_pointer_nil w 25 none Try.underlying25
  · obtain ⟨j, hj⟩ := info40
    exact run_eql_ptr_same (P := Try.prog) w q Try.underlying25 hj

theorem map_len {js ms : List (Nat × Step)} (h : js.map Prod.snd = ms.map Prod.snd) : js.length = ms.length := by
  have := congrArg List.length h
  simpa using this

set_option maxHeartbeats 2000000 in
theorem walk (a b c : Option Addr) (capa capb capc : Nat) (A B C : List Step) (w : World) (ha : IsSteps w a A) (hb : IsSteps w b B) (hc : IsSteps w c C) :
    Calls Try.prog 4 #[.slice a A.length capa, .slice b B.length capb, .slice c C.length capc] w fun e w' => e = .returned (.bool true) ∧ Below w.heap.size w w' := by
  go_enter Try.func4, Try.ntmps4
  go_wp2_with fail
  refine (guard12_any a b c capa capb capc A B C w ha hb hc).mono ?_
  rintro e w' ⟨hsays, hw⟩
  subst hw
  rcases hsays with rfl | ⟨rfl, hsum⟩
  · go_wp2_with fail
    go_ret
    exact ⟨rfl, Below.refl _ _⟩
  have la : A.length ≤ 1048576 := by omega
  have lb : B.length ≤ 1048576 := by omega
  have lc : C.length ≤ 1048576 := by omega
  clear hsum
  by_cases ga : A.length ≤ 65536
  rotate_left
  · go_wp2_with fail
    go_ret
    exact ⟨rfl, Below.refl _ _⟩
  by_cases gb : B.length ≤ 65536
  rotate_left
  · go_wp2_with fail
    go_ret
    exact ⟨rfl, Below.refl _ _⟩
  by_cases gc : C.length ≤ 65536
  rotate_left
  · go_wp2_with fail
    go_ret
    exact ⟨rfl, Below.refl _ _⟩
  go_wp2_with fail
  refine (bytes_any a capa A 0 w' ha).mono ?_
  rintro e w ⟨⟨n, rfl⟩, hw⟩
  subst hw
  by_cases gn : n ≤ 1048576
  rotate_left
  · go_wp2_with fail
    go_ret
    exact ⟨rfl, Below.refl _ _⟩
  go_wp2_with fail
  refine (bytes_any b capb B n w hb).mono ?_
  rintro e w' ⟨⟨m, rfl⟩, hw⟩
  subst hw
  by_cases gm : m ≤ 1048576
  rotate_left
  · go_wp2_with fail
    go_ret
    exact ⟨rfl, Below.refl _ _⟩
  go_wp2_with fail
  refine (bytes_any c capc C m w' hc).mono ?_
  rintro e w ⟨⟨l, rfl⟩, hw⟩
  subst hw
  by_cases gl : l ≤ 1048576
  rotate_left
  · go_wp2_with fail
    go_ret
    exact ⟨rfl, Below.refl _ _⟩
  go_wp2_with fail
  refine (build_any a capa A w ha).mono ?_
  rintro e w1 ⟨ns, rfl, hns, cns, b1⟩
  have HNS : Hid _ := hns
  clear hns
  go_wp2_with fail
  refine (build_any b capb B w1 (hb.below b1)).mono ?_
  rintro e w2 ⟨ms, rfl, hms, cms, b2⟩
  have HMS : Hid _ := hms
  clear hms
  have b02 := b1.trans (b2.mono b1.size)
  go_wp2_with fail
  refine (build_any c capc C w2 (hc.below b02)).mono ?_
  rintro e w3 ⟨ks, rfl, hks, cks, b3⟩
  have HKS : Hid _ := hks
  clear hks
  have b03 := b02.trans (b3.mono b02.size)
  -- q.Join(s)
  go_wp2_with fail
  refine (join_any ks ms w3 (cms.below b3) cks).mono ?_
  rintro e w4 ⟨us, rfl, hus, cus, b4⟩
  have HUS : Hid _ := hus
  clear hus
  have b04 := b03.trans (b4.mono b03.size)
  -- p.Join(q.Join(s))
  go_wp2_with fail
  refine (join_any (us ++ ms) ns w4 (((cns.below b2).below b3).below b4) cus).mono ?_
  rintro e w5 ⟨xs, rfl, hxs, cxs, b5⟩
  have HXS : Hid _ := hxs
  clear hxs
  have b05 := b04.trans (b5.mono b04.size)
  -- p.Join(q)
  go_wp2_with fail
  refine (join_any ms ns w5 ((((cns.below b2).below b3).below b4).below b5) (((cms.below b3).below b4).below b5)).mono ?_
  rintro e w6 ⟨vs, rfl, hvs, cvs, b6⟩
  have HVS : Hid _ := hvs
  clear hvs
  have b06 := b05.trans (b6.mono b05.size)
  -- p.Join(q).Join(s)
  go_wp2_with fail
  refine (join_any ks (vs ++ ns) w6 cvs (((cks.below b4).below b5).below b6)).mono ?_
  rintro e w7 ⟨ys, rfl, hys, cys, b7⟩
  have HYS : Hid _ := hys
  clear hys
  have b07 := b06.trans (b7.mono b06.size)
  have HX : Hid ((xs ++ ns).map Prod.snd = (A ++ B ++ C).reverse) := by
    show (xs ++ ns).map Prod.snd = (A ++ B ++ C).reverse
    rw [List.map_append, HXS.out, List.map_append, HUS.out, HKS.out, HMS.out, HNS.out]; simp
  have HY : Hid ((ys ++ (vs ++ ns)).map Prod.snd = (A ++ B ++ C).reverse) := by
    show (ys ++ (vs ++ ns)).map Prod.snd = (A ++ B ++ C).reverse
    rw [List.map_append, List.map_append, HYS.out, HVS.out, HKS.out, HMS.out, HNS.out]; simp
  go_wp2_with fail
  refine (isSteps_any a b c capa capb capc A B C w7 (ha.below b07) (hb.below b07) (hc.below b07) (by omega) (xs ++ ns) HX.out ((cxs.below b6).below b7)).mono ?_
  rintro e w8 ⟨rfl, b8⟩
  have b08 := b07.trans (b8.mono b07.size)
  go_wp2_with fail
  refine (isSteps_any a b c capa capb capc A B C w8 (ha.below b08) (hb.below b08) (hc.below b08) (by omega) (ys ++ (vs ++ ns)) HY.out (cys.below b8)).mono ?_
  rintro e w9 ⟨rfl, b9⟩
  have b09 := b08.trans (b9.mono b08.size)
  have LX : Hid ((B.length : Int) + (C.length : Int) = (xs.length : Int)) := by
    have h1 := map_len HXS.out
    have h2 := map_len HUS.out
    have h3 := congrArg List.length HKS.out
    have h4 := congrArg List.length HMS.out
    simp at h1 h3 h4
    show (B.length : Int) + (C.length : Int) = (xs.length : Int)
    omega
  have LY : Hid ((B.length : Int) + (C.length : Int) = ((ys ++ vs).length : Int)) := by
    have h1 := map_len HYS.out
    have h2 := map_len HVS.out
    have h3 := congrArg List.length HKS.out
    have h4 := congrArg List.length HMS.out
    simp at h3 h4
    show (B.length : Int) + (C.length : Int) = ((ys ++ vs).length : Int)
    simp
    omega
  clear HNS HMS HKS HUS HXS HVS HYS HX HY
  go_wp2_with fail
  rw [LX.out]
  refine (up_any xs ns w9 (((cxs.below b6).below b7).below (b8.trans (b9.mono b8.size))) (by have := LX.out; omega)).mono ?_
  rintro e w10 ⟨rfl, b10⟩
  have b0a := b09.trans (b10.mono b09.size)
  have hq := eq_ptr (ptr ns)
  go_wp2_with fail
  rw [LY.out, ← List.append_assoc]
  refine (up_any (ys ++ vs) ns w10 (by rw [List.append_assoc]; exact (cys.below b8).below (b9.trans (b10.mono b9.size))) (by have := LY.out; omega)).mono ?_
  rintro e w11 ⟨rfl, b11⟩
  have b0b := b0a.trans (b11.mono b0a.size)
  go_wp2_with fail
  go_ret
  exact ⟨rfl, b0b⟩
end Go.Proofs.Qxb6617428a.fnPathJoinIsAssociative
