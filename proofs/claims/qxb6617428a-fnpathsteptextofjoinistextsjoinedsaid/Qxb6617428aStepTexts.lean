import Derived.Test.Qxb6617428aBuild
import Derived.Test.Qxb6617428aJoin
import Derived.Test.Qxb6617428aGuard13
import Derived.Test.Qxb6617428aPathText
import Derived.Test.Qxb6617428aNames
namespace Go.Proofs.Qxb6617428a.fnPathStepTextOfJoinIsTextsJoined
open Go.RowKit Go.Lib Go.ChangeShapes Go.WideShapes

theorem bound_text (L : List Step) (h : tot L ≤ 1048576) (h' : L.length ≤ 1048576) : (text L).length ≤ 4194304 := by
  have h1 := text_bound L
  have h2 : total L = tot L := rfl
  omega
theorem tot_append (A B : List Step) : tot (A ++ B) = tot A + tot B := by simp [tot]

theorem rev_map {ns : List (Nat × Step)} {A : List Step} (h : ns.map Prod.snd = A.reverse) : (ns.map Prod.snd).reverse = A := by rw [h, List.reverse_reverse]
theorem len_map {ns : List (Nat × Step)} {A : List Step} (h : ns.map Prod.snd = A.reverse) : ns.length = A.length := by
  have := congrArg List.length h
  simpa using this

theorem src_cells {w w' : World} {ao : Option Addr} {l : List UInt8} (hc : ∀ i b, l[i]? = some b → ∃ g off, ao = some ⟨g, off, none⟩ ∧ w.cell? ⟨g, off + i, none⟩ = some (.int .u8 b.toNat)) (hb : Below w.heap.size w w') :
    ∀ ad, ao = some ad → ∀ j u, (cellsOf l)[j]? = some u → w'.cell? (ad.add j) = some u := by
  intro ad had j u hj
  simp only [cellsOf, List.getElem?_map, Option.map_eq_some_iff] at hj
  obtain ⟨b, hb', rfl⟩ := hj
  obtain ⟨g, off, ha, hcell⟩ := hc j b hb'
  rw [had] at ha
  cases ha
  rw [add_plain]
  exact cell_below hb hcell

theorem cells_one (l : List UInt8) : ∀ u ∈ cellsOf l, u.oneCell' = true := by
  intro u hu
  simp only [cellsOf, List.mem_map] at hu
  obtain ⟨b, _, rfl⟩ := hu
  rfl

theorem dot_left (B : List Step) : dot [] B = [] := by cases B <;> rfl
theorem dot_right (A : List Step) : dot A [] = [] := by cases A <;> rfl
theorem dot_sub (x : Step) (A : List Step) (s : Step) (B : List Step) (h : s.sub = true) : dot (x :: A) (s :: B) = [] := by simp [dot, h]
theorem dot_name (x : Step) (A : List Step) (s : Step) (B : List Step) (h : s.sub = false) : dot (x :: A) (s :: B) = [46] := by simp [dot, h]

/-- The three ways without a dot, and the one with it. -/
theorem way {w8 : World} {b : Option Addr} {A B : List Step} (i8 : IsSteps w8 b B) :
    (A.length = 0 ∨ B.length = 0 ∨ ∃ g off, b = some ⟨g, off, none⟩ ∧ w8.cell? ⟨g, off + 1, none⟩ = some (.bool true)) ∧ dot A B = [] ∨
      0 < A.length ∧ 0 < B.length ∧ (∃ g off, b = some ⟨g, off, none⟩ ∧ w8.cell? ⟨g, off + 1, none⟩ = some (.bool false)) ∧ dot A B = [46] := by
  match A, B, i8 with
  | [], B, _ => exact .inl ⟨.inl rfl, dot_left B⟩
  | A, [], _ => exact .inl ⟨.inr (.inl rfl), dot_right A⟩
  | x :: A, s :: B, i8 =>
    obtain ⟨g, off, hbo, -, h1, -⟩ := i8.cells 0 s rfl
    rw [Nat.zero_mul, Nat.add_zero] at h1
    cases hsub : s.sub with
    | true => exact .inl ⟨.inr (.inr ⟨g, off, hbo, by rw [h1, hsub]⟩), dot_sub x A s B hsub⟩
    | false => exact .inr ⟨by simp, by simp, ⟨g, off, hbo, by rw [h1, hsub]⟩, dot_name x A s B hsub⟩

/-- From what the call owns to the bytes that it reads as. -/
theorem fin_bytes {w : World} {base n : Nat} {v : Value} {xs : List Value} {l : List UInt8} (h : w.ownsRow base 5 1 v n xs) (hn : n = l.length) (hx : xs = cellsOf l) : Bytes w v l := by
  subst hn hx
  exact Bytes.of_own h

set_option maxHeartbeats 2000000 in
theorem walk (a b : Option Addr) (capa capb : Nat) (A B : List Step) (w : World) (ha : IsSteps w a A) (hb : IsSteps w b B) :
    Calls Try.prog 5 #[.slice a A.length capa, .slice b B.length capb] w fun e w' => e = .returned (.bool true) ∧ Below w.heap.size w w' := by
  go_enter Try.func5, Try.ntmps5
  go_wp2_with fail
  refine (guard13_any a b capa capb A B w ha hb).mono ?_
  rintro e w' ⟨hsays, hw⟩
  subst hw
  rcases hsays with rfl | ⟨rfl, hsum⟩
  · go_wp2_with fail
    go_ret
    exact ⟨rfl, Below.refl _ _⟩
  have la : A.length ≤ 1048576 := by omega
  have lb : B.length ≤ 1048576 := by omega
  have ta := bound_text A (by omega) la
  have tb := bound_text B (by omega) lb
  have tab := bound_text (A ++ B) (by rw [tot_append]; omega) (by simp; omega)
  clear hsum
  by_cases ga : A.length ≤ 65536
  rotate_left
  · go_wp2_with fail
    go_ret
    exact ⟨rfl, Below.refl _ _⟩
  by_cases gb : B.length ≤ 65536
  rotate_left
  · go_wp2_with fail
    go_ret
    exact ⟨rfl, Below.refl _ _⟩
  go_wp2_with fail
  refine (bytes_any a capa A 0 w' ha).mono ?_
  rintro e w ⟨⟨n, rfl⟩, hw⟩
  subst hw
  by_cases gn : n ≤ 1048576
  rotate_left
  · go_wp2_with fail
    go_ret
    exact ⟨rfl, Below.refl _ _⟩
  go_wp2_with fail
  refine (bytes_any b capb B n w hb).mono ?_
  rintro e w' ⟨⟨m, rfl⟩, hw⟩
  subst hw
  by_cases gm : m ≤ 1048576
  rotate_left
  · go_wp2_with fail
    go_ret
    exact ⟨rfl, Below.refl _ _⟩
  go_wp2_with fail
  refine (build_any a capa A w' ha).mono ?_
  rintro e w1 ⟨ns, rfl, hns, cns, b1⟩
  have HNS : Hid _ := hns
  clear hns
  go_wp2_with fail
  refine (build_any b capb B w1 (hb.below b1)).mono ?_
  rintro e w2 ⟨ms, rfl, hms, cms, b2⟩
  have HMS : Hid _ := hms
  clear hms
  have b02 := b1.trans (b2.mono b1.size)
  go_wp2_with fail
  refine (join_any ms ns w2 (cns.below b2) cms).mono ?_
  rintro e w3 ⟨js, rfl, hjs, cjs, b3⟩
  have HJS : Hid _ := hjs
  clear hjs
  have b03 := b02.trans (b3.mono b02.size)
  have HJN : Hid ((js ++ ns).map Prod.snd = (A ++ B).reverse) := by
    show (js ++ ns).map Prod.snd = (A ++ B).reverse
    rw [List.map_append, HJS.out, HMS.out, HNS.out]; simp
  go_wp2_with fail
  refine (pathText_any (js ++ ns) w3 cjs (by rw [len_map HJN.out]; simp; omega) (by rw [rev_map HJN.out]; omega)).mono ?_
  rintro e w4 ⟨tj, rfl, btj, b4⟩
  rw [rev_map HJN.out] at btj
  have b04 := b03.trans (b4.mono b03.size)
  go_wp2_with fail
  refine (pathText_any ns w4 (((cns.below b2).below b3).below b4) (by rw [len_map HNS.out]; omega) (by rw [rev_map HNS.out]; omega)).mono ?_
  rintro e w5 ⟨tp, rfl, btp, b5⟩
  rw [rev_map HNS.out] at btp
  have b05 := b04.trans (b5.mono b04.size)
  go_wp2_with fail
  refine (pathText_any ms w5 (((cms.below b3).below b4).below b5) (by rw [len_map HMS.out]; omega) (by rw [rev_map HMS.out]; omega)).mono ?_
  rintro e w6 ⟨tr, rfl, btr, b6⟩
  rw [rev_map HMS.out] at btr
  have b06 := b05.trans (b6.mono b05.size)
  have btj6 := (btj.below b5).below b6
  have btp6 := btp.below b6
  have cj6 := ((cjs.below b4).below b5).below b6
  have a6 := ha.below b06
  have bb6 := hb.below b06
  have HJ : Hid (text (A ++ B) = text A ++ (dot A B ++ text B)) := text_join A B
  clear btj btp cns cms cjs b1 b2 b3 b4 b5 b6 b02 b03 b04 b05 HNS HMS HJS
  obtain ⟨i5, hj, hy0, hy1, hy2⟩ := info_parts Try.info5
  obtain ⟨-, aj, cj, hvj, -, hcj⟩ := id btj6
  obtain ⟨-, ap, cp, hvp, hnp, hcp⟩ := id btp6
  obtain ⟨-, ar, cr, hvr, hnr, hcr⟩ := id btr
  rw [hvj, hvp, hvr]
  go_wp2_with (at_make; refine wpList_make_own _ rfl (.const (.int .i64 0)) (.tmp 52) 31 rfl w6.heap.size 5 i5 (.int .u8 0) 1 Try.underlying31 hj hy0 hy1 .i64 .i64 _ ((text A).length + 1 + (text B).length) rfl rfl ?m1 ?m2 ?m3 ?m4 ?_)
  case m1 => omega
  case m2 => rw [hy2]; omega
  case m3 => unfold maxLen; omega
  case m4 => omega
  intro w7 hown7 hg7
  have b7 : Below w6.heap.size w6 w7 := (Below.refl _ _).grown hg7 (Nat.le_refl _) (by simp)
  have hp7 := src_cells hcp b7
  go_wp2_with (at_builtin; refine wpList_append_fits_any _ rfl (.tmp 54) (.tmp 55) 31 rfl w6.heap.size 5 i5 1 Try.underlying31 hj hy1 w6.heap.size 0 ((text A).length + 1 + (text B).length) [] rfl hown7 ap (text A).length cp (cellsOf (text A)) rfl ?p1 ?p2 ?p3 ?p4 ?p5 ?_)
  case p1 => rw [cellsOf_length]; omega
  case p2 => exact hnp
  case p3 => exact hp7
  case p4 => exact cells_one _
  case p5 => omega
  intro w8 hown8 hg8
  have b8 : Below w6.heap.size w6 w8 := b7.grown hg8 b7.size (by simp)
  clear hown7 hg7 hg8 hp7 hcp
  -- the three ways without a dot, and the one with it
  have hway := way (bb6.below b8) (A := A)
  have bj6 : Bytes w6 (.slice aj (text (A ++ B)).length cj) (text (A ++ B)) := by rw [← hvj]; exact btj6
  clear btj6 btp6 btr hvj hvp hvr hcj
  rcases hway with ⟨hno, hdot⟩ | ⟨hA, hB, ⟨g, off, hbo, hcell⟩, hdot⟩
  · have HF : Hid (text (A ++ B) = text A ++ text B) := by
      have := HJ.out
      rw [hdot] at this
      show text (A ++ B) = text A ++ text B
      simpa using this
    clear hdot HJ
    have q1 : (cellsOf (text B)).length = (text B).length * 1 := by rw [cellsOf_length]; omega
    have q3 := src_cells hcr b8
    have q5 : (text A).length + (text B).length ≤ (text A).length + 1 + (text B).length := by omega
    clear hcr
    have hcases : (A.length = 0) ∨ (0 < A.length ∧ B.length = 0) ∨ (0 < A.length ∧ 0 < B.length ∧ ∃ g off, b = some ⟨g, off, none⟩ ∧ w8.cell? ⟨g, off + 1, none⟩ = some (.bool true)) := by
      rcases Nat.eq_zero_or_pos A.length with h | h
      · exact .inl h
      rcases Nat.eq_zero_or_pos B.length with h' | h'
      · exact .inr (.inl ⟨h, h'⟩)
      rcases hno with h2 | h2 | h2
      · omega
      · omega
      · exact .inr (.inr ⟨h, h', h2⟩)
    clear hno
    rcases hcases with hA | ⟨hA, hB⟩ | ⟨hA, hB, g, off, hbo, hcell⟩
    · have hA' : A.length ≤ 0 := by omega
      clear hA
      go_wp2_with (at_builtin; refine wpList_append_fits_any _ rfl (.tmp 75) (.tmp 76) 31 rfl w6.heap.size 5 i5 1 Try.underlying31 hj hy1 w6.heap.size (text A).length ((text A).length + 1 + (text B).length) (cellsOf (text A)) rfl hown8 ar (text B).length cr (cellsOf (text B)) rfl q1 hnr q3 (cells_one _) q5 ?_)
      intro w10 hown10 hg10
      have b10 : Below w6.heap.size w6 w10 := b8.grown hg10 b8.size (by simp)
      have bw := fin_bytes (l := text (A ++ B)) hown10 (by rw [HF.out]; simp) (by rw [HF.out]; simp [cellsOf_append])
      have bj := bj6.below b10
      have c10 := cj6.below b10
      have a10 := a6.below b10
      have bb10 := bb6.below b10
      have b010 := b06.trans (b10.mono b06.size)
      clear hown10 hg10 hown8 b8 b10 bj6 cj6 a6 bb6 b06 q1 q3 q5
      go_wp2_with fail
      refine (bytesEqual_any _ _ (text (A ++ B)) w10 bj bw).mono ?_
      rintro e w11 ⟨rfl, b11⟩
      have b011 := b010.trans (b11.mono b010.size)
      go_wp2_with fail
      refine (textLen_any a b capa capb A B w11 (a10.below b11) (bb10.below b11) (by omega) (by omega)).mono ?_
      rintro e w12 ⟨rfl, b12⟩
      have b012 := b011.trans (b12.mono b011.size)
      go_wp2_with fail
      refine (names_any a b capa capb A B w12 ((a10.below b11).below b12) ((bb10.below b11).below b12) (by omega) (js ++ ns) HJN.out ((c10.below b11).below b12)).mono ?_
      rintro e w13 ⟨rfl, b13⟩
      go_wp2_with fail
      go_ret
      exact ⟨rfl, b012.trans (b13.mono b012.size)⟩
    · have hB' : B.length ≤ 0 := by omega
      clear hB
      go_wp2_with (at_builtin; refine wpList_append_fits_any _ rfl (.tmp 75) (.tmp 76) 31 rfl w6.heap.size 5 i5 1 Try.underlying31 hj hy1 w6.heap.size (text A).length ((text A).length + 1 + (text B).length) (cellsOf (text A)) rfl hown8 ar (text B).length cr (cellsOf (text B)) rfl q1 hnr q3 (cells_one _) q5 ?_)
      intro w10 hown10 hg10
      have b10 : Below w6.heap.size w6 w10 := b8.grown hg10 b8.size (by simp)
      have bw := fin_bytes (l := text (A ++ B)) hown10 (by rw [HF.out]; simp) (by rw [HF.out]; simp [cellsOf_append])
      have bj := bj6.below b10
      have c10 := cj6.below b10
      have a10 := a6.below b10
      have bb10 := bb6.below b10
      have b010 := b06.trans (b10.mono b06.size)
      clear hown10 hg10 hown8 b8 b10 bj6 cj6 a6 bb6 b06 q1 q3 q5
      go_wp2_with fail
      refine (bytesEqual_any _ _ (text (A ++ B)) w10 bj bw).mono ?_
      rintro e w11 ⟨rfl, b11⟩
      have b011 := b010.trans (b11.mono b010.size)
      go_wp2_with fail
      refine (textLen_any a b capa capb A B w11 (a10.below b11) (bb10.below b11) (by omega) (by omega)).mono ?_
      rintro e w12 ⟨rfl, b12⟩
      have b012 := b011.trans (b12.mono b011.size)
      go_wp2_with fail
      refine (names_any a b capa capb A B w12 ((a10.below b11).below b12) ((bb10.below b11).below b12) (by omega) (js ++ ns) HJN.out ((c10.below b11).below b12)).mono ?_
      rintro e w13 ⟨rfl, b13⟩
      go_wp2_with fail
      go_ret
      exact ⟨rfl, b012.trans (b13.mono b012.size)⟩
    · subst hbo
      go_wp2_with (at_builtin; refine wpList_append_fits_any _ rfl (.tmp 75) (.tmp 76) 31 rfl w6.heap.size 5 i5 1 Try.underlying31 hj hy1 w6.heap.size (text A).length ((text A).length + 1 + (text B).length) (cellsOf (text A)) rfl hown8 ar (text B).length cr (cellsOf (text B)) rfl q1 hnr q3 (cells_one _) q5 ?_)
      intro w10 hown10 hg10
      have b10 : Below w6.heap.size w6 w10 := b8.grown hg10 b8.size (by simp)
      have bw := fin_bytes (l := text (A ++ B)) hown10 (by rw [HF.out]; simp) (by rw [HF.out]; simp [cellsOf_append])
      have bj := bj6.below b10
      have c10 := cj6.below b10
      have a10 := a6.below b10
      have bb10 := bb6.below b10
      have b010 := b06.trans (b10.mono b06.size)
      clear hown10 hg10 hown8 b8 b10 bj6 cj6 a6 bb6 b06 q1 q3 q5
      go_wp2_with fail
      refine (bytesEqual_any _ _ (text (A ++ B)) w10 bj bw).mono ?_
      rintro e w11 ⟨rfl, b11⟩
      have b011 := b010.trans (b11.mono b010.size)
      go_wp2_with fail
      refine (textLen_any a _ capa capb A B w11 (a10.below b11) (bb10.below b11) (by omega) (by omega)).mono ?_
      rintro e w12 ⟨rfl, b12⟩
      have b012 := b011.trans (b12.mono b011.size)
      go_wp2_with fail
      refine (names_any a _ capa capb A B w12 ((a10.below b11).below b12) ((bb10.below b11).below b12) (by omega) (js ++ ns) HJN.out ((c10.below b11).below b12)).mono ?_
      rintro e w13 ⟨rfl, b13⟩
      go_wp2_with fail
      go_ret
      exact ⟨rfl, b012.trans (b13.mono b012.size)⟩
  · have HF : Hid (text (A ++ B) = text A ++ (46 :: text B)) := by
      have := HJ.out
      rw [hdot] at this
      show text (A ++ B) = text A ++ (46 :: text B)
      simpa using this
    clear hdot HJ
    subst hbo
    have r1 : ∀ j u, [Value.int .u8 46][j]? = some u → (w8.alloc (.cells #[.int .u8 46] 5)).cell? ((⟨w8.heap.size, 0, none⟩ : Addr).add j) = some u := by
      intro j u hj
      match j, hj with
      | 0, hj => simp at hj; subst hj; simp [Addr.add]
    have r2 : ∀ u ∈ [Value.int .u8 46], u.oneCell' = true := by intro u hu; simp at hu; subst hu; rfl
    have r5 : (text A).length + 1 ≤ (text A).length + 1 + (text B).length := by omega
    go_wp2_with (at_builtin; refine wpList_append_fits _ rfl (.tmp 72) (.tmp 73) 31 rfl w6.heap.size 5 i5 1 Try.underlying31 hj hy1 w6.heap.size (text A).length ((text A).length + 1 + (text B).length) (cellsOf (text A)) rfl (hown8.alloc _) ⟨w8.heap.size, 0, none⟩ 1 1 [.int .u8 46] rfl rfl r1 r2 r5 ?_)
    intro w9 hown9 hg9
    have b9 : Below w6.heap.size w6 w9 := (b8.alloc b8.size _).grown hg9 (by simp; exact Nat.le_succ_of_le b8.size) (by simp)
    have q1 : (cellsOf (text B)).length = (text B).length * 1 := by rw [cellsOf_length]; omega
    have q3 := src_cells hcr b9
    have q5 : (text A).length + 1 + (text B).length ≤ (text A).length + 1 + (text B).length := by omega
    clear hcr r1 r2 r5 hg9 hcell
    go_wp2_with (at_builtin; refine wpList_append_fits_any _ rfl (.tmp 75) (.tmp 76) 31 rfl w6.heap.size 5 i5 1 Try.underlying31 hj hy1 w6.heap.size ((text A).length + 1) ((text A).length + 1 + (text B).length) (cellsOf (text A) ++ [.int .u8 46]) rfl hown9 ar (text B).length cr (cellsOf (text B)) rfl q1 hnr q3 (cells_one _) q5 ?_)
    intro w10 hown10 hg10
    have b10 : Below w6.heap.size w6 w10 := b9.grown hg10 b9.size (by simp)
    have bw := fin_bytes (l := text (A ++ B)) hown10 (by rw [HF.out]; simp; omega) (by rw [HF.out]; simp [cellsOf])
    have bj := bj6.below b10
    have c10 := cj6.below b10
    have a10 := a6.below b10
    have bb10 := bb6.below b10
    have b010 := b06.trans (b10.mono b06.size)
    clear hown10 hg10 hown8 b8 b10 bj6 cj6 a6 bb6 b06 q1 q3 q5
    go_wp2_with fail
    refine (bytesEqual_any _ _ (text (A ++ B)) w10 bj bw).mono ?_
    rintro e w11 ⟨rfl, b11⟩
    have b011 := b010.trans (b11.mono b010.size)
    go_wp2_with fail
    refine (textLen_any a _ capa capb A B w11 (a10.below b11) (bb10.below b11) (by omega) (by omega)).mono ?_
    rintro e w12 ⟨rfl, b12⟩
    have b012 := b011.trans (b12.mono b011.size)
    go_wp2_with fail
    refine (names_any a _ capa capb A B w12 ((a10.below b11).below b12) ((bb10.below b11).below b12) (by omega) (js ++ ns) HJN.out ((c10.below b11).below b12)).mono ?_
    rintro e w13 ⟨rfl, b13⟩
    go_wp2_with fail
    go_ret
    exact ⟨rfl, b012.trans (b13.mono b012.size)⟩
end Go.Proofs.Qxb6617428a.fnPathStepTextOfJoinIsTextsJoined
