import Derived.Test.Qxb6617428aBuild
import Derived.Test.Qxb6617428aJoin
import Derived.Test.Qxb6617428aSteps
import Derived.LaidEqlPtr
namespace Go.Proofs.Qxb6617428a.fnPathJoinAppendsRestAfterReceiver
open Go.RowKit

theorem info40some : (Try.prog.info? 40).isSome = true := by kernel_rfl
theorem info40 : ∃ j, Try.prog.info? 40 = some j := Option.isSome_iff_exists.1 info40some
theorem none_steps (w : World) : IsSteps w none [] := ⟨by simp, by simp, fun i s h => by simp at h⟩

set_option maxHeartbeats 1000000 in
theorem walk (a b : Option Addr) (capa capb : Nat) (A B : List Step) (w : World) (ha : IsSteps w a A) (hb : IsSteps w b B) :
    Calls Try.prog 3 #[.slice a A.length capa, .slice b B.length capb] w fun e w' => e = .returned (.bool true) ∧ Below w.heap.size w w' := by
  go_enter Try.func3, Try.ntmps3
  go_wp2_with fail
  refine (guard6_any a b capa capb A B w ha hb).mono ?_
  rintro e w' ⟨hsays, hw⟩
  subst hw
  rcases hsays with rfl | ⟨rfl, hsum⟩
  · go_wp2_with fail
    go_ret
    exact ⟨rfl, Below.refl _ _⟩
  have la : A.length ≤ 1048576 := by omega
  have lb : B.length ≤ 1048576 := by omega
  clear hsum
  by_cases ga : A.length ≤ 65536
  rotate_left
  · go_wp2_with fail
    go_ret
    exact ⟨rfl, Below.refl _ _⟩
  by_cases gb : B.length ≤ 65536
  rotate_left
  · go_wp2_with fail
    go_ret
    exact ⟨rfl, Below.refl _ _⟩
  go_wp2_with fail
  refine (bytes_any a capa A 0 w' ha).mono ?_
  rintro e w ⟨⟨n, rfl⟩, hw⟩
  subst hw
  by_cases gn : n ≤ 1048576
  rotate_left
  · go_wp2_with fail
    go_ret
    exact ⟨rfl, Below.refl _ _⟩
  go_wp2_with fail
  refine (bytes_any b capb B n w ?_).mono ?_
  · exact hb
  rintro e w' ⟨⟨m, rfl⟩, hw⟩
  subst hw
  by_cases gm : m ≤ 1048576
  rotate_left
  · go_wp2_with fail
    go_ret
    exact ⟨rfl, Below.refl _ _⟩
  go_wp2_with fail
  refine (build_any a capa A w' ha).mono ?_
  rintro e w1 ⟨ns, rfl, hns, cns, b1⟩
  have HNS : Hid _ := hns
  clear hns
  go_wp2_with fail
  refine (build_any b capb B w1 (hb.below b1)).mono ?_
  rintro e w2 ⟨ms, rfl, hms, cms, b2⟩
  have HMS : Hid _ := hms
  clear hms
  have b02 := b1.trans (b2.mono b1.size)
  go_wp2_with fail
  refine (join_any ms ns w2 (cns.below b2) cms).mono ?_
  rintro e w3 ⟨js, rfl, hjs, cjs, b3⟩
  have HJS : Hid _ := hjs
  clear hjs
  have b03 := b02.trans (b3.mono b02.size)
  have hjn : (js ++ ns).map Prod.snd = (A ++ B ++ []).reverse := by
    rw [List.map_append, HJS.out, HMS.out, HNS.out]; simp
  have HJN : Hid _ := hjn
  clear hjn
  go_wp2_with fail
  refine (isSteps_any a b none capa capb 0 A B [] w3 (ha.below b03) (hb.below b03) (none_steps _) (by simp; omega) (js ++ ns) HJN.out cjs).mono ?_
  rintro e w4 ⟨rfl, b4⟩
  have b04 := b03.trans (b4.mono b03.size)
  have HL : Hid (B.length = js.length) := by
    have h1 := congrArg List.length HJS.out
    have h2 := congrArg List.length HMS.out
    simp at h1 h2
    show B.length = js.length
    omega
  go_wp2_with fail
  rw [HL.out]
  refine (up_any js ns w4 (cjs.below b4) (by rw [← HL.out]; omega)).mono ?_
  rintro e w5 ⟨rfl, b5⟩
  have b05 := b04.trans (b5.mono b04.size)
  generalize ptr ns = q
  rcases q with _ | q
  · go_wp2_with fail
    go_ret
    exact ⟨rfl, b05⟩
  · obtain ⟨j, hj⟩ := info40
    have hq := fun w => run_eql_ptr_same (P := Try.prog) w q Try.underlying25 hj
    go_wp2_with fail
    go_ret
    exact ⟨rfl, b05⟩
end Go.Proofs.Qxb6617428a.fnPathJoinAppendsRestAfterReceiver
