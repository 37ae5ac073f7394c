import Derived.Test.Qxb6617428aRowsOwn
namespace Go.Proofs.Qxb6617428a
open Go.RowKit Go.Lib

theorem own_draws {w : World} {base : Nat} {e : TypeId} {size : Nat} {v : Value} {n : Nat} {xs : List Value} (m : Nat) (h : w.ownsRow base e size v n xs) : (w.drewN m).ownsRow base e size v n xs := h

theorem rev_snoc (s : List (Nat × Step)) (n : Nat × Step) : ((n :: s).map Prod.snd).reverse = (s.map Prod.snd).reverse ++ [n.2] := by simp

/-- The text so far is no longer than the whole. -/
theorem text_part (r s : List (Nat × Step)) : (text (s.map Prod.snd).reverse).length ≤ (text ((r ++ s).map Prod.snd).reverse).length := by
  rw [List.map_append, List.reverse_append]
  exact text_take_le _ _

set_option maxHeartbeats 2000000 in
/-- 'pathTextFieldB1' -/
theorem pathText_any (ns : List (Nat × Step)) (w : World) (hch : Chain w ns) (hlen : ns.length ≤ 4194304) (htext : (text (ns.map Prod.snd).reverse).length ≤ 16777216) :
    Calls Try.prog 14 #[.pointer (ptr ns)] w fun e w' => ∃ v, e = .returned v ∧ Bytes w' v (text (ns.map Prod.snd).reverse) ∧ Below w.heap.size w w' := by
  obtain ⟨i25, hi, hz0, hz1, hz2⟩ := info_parts Try.info25
  go_enter Try.func14, Try.ntmps14
  go_wp2_with fail
  go_loopg [0, 3] ns.length (fun k p v wr => ∃ don r, ns = don ++ r ∧ k = r.length ∧ p = .pointer (ptr r) ∧ wr.ownsRow w.heap.size 25 1 v don.length (don.map nodePtr) ∧ Below w.heap.size w wr)
  case atStart => exact ⟨[], ns, rfl, rfl, rfl, World.ownsRow_nil _ _ _ _, Below.refl _ _⟩
  case round =>
    obtain ⟨don, r, hns, hk, rfl, hown, hbel⟩ := hrel
    have HNS : Hid (ns = don ++ r) := hns
    have hdl : don.length + r.length ≤ 4194304 := by have := congrArg List.length hns; simp at this; omega
    clear hns
    match r, hk, HNS, hdl with
    | [], hk, HNS, hdl =>
      have HE : Hid (don = ns) := by have := HNS.out; rw [List.append_nil] at this; exact this.symm
      obtain ⟨ao, cap, hv, hcells⟩ := nodes_shape hown
      have hdl' : don.length ≤ 4194304 := by simp at hdl; omega
      rw [hv]
      simp only [ptr_nil]
      clear hv hown hdl hk
      obtain ⟨i5, hj, hy0, hy1, hy2⟩ := info_parts Try.info5
      go_wp2_with fail
      obtain ⟨w1, hw1⟩ : ∃ w1, w1 = wr := ⟨wr, rfl⟩
      subst hw1
      go_loopw [4, 5] (fun v i wx => ∃ r s, don = r ++ s ∧ i = .int .i64 ((r.length : Int) - 1) ∧ wx.ownsRow w1.heap.size 5 1 v (text (s.map Prod.snd).reverse).length (cellsOf (text (s.map Prod.snd).reverse)) ∧ Below w1.heap.size w1 wx) (fun _ i _ => (intOf i + 1).toNat)
      case atStart => exact ⟨don, [], by simp, rfl, World.ownsRow_nil _ _ _ _, Below.refl _ _⟩
      case round =>
        obtain ⟨r, s, hdon, rfl, hown, hbx⟩ := hrel
        have HD : Hid (don = r ++ s) := hdon
        clear hdon
        rcases List.eq_nil_or_concat r with hr | ⟨r', n, hr⟩
        · subst hr
          simp only [List.length_nil]
          go_wp2_with fail
          go_ret
          refine ⟨_, rfl, ?_, hbel.trans (hbx.mono hbel.size)⟩
          have e1 : s = ns := by have := HD.out; rw [List.nil_append] at this; rw [← this]; exact HE.out
          rw [← e1]
          exact Bytes.of_own hown
        · rw [List.concat_eq_append] at hr
          subst hr
          obtain ⟨b, st⟩ := n
          have hsplit : don = r' ++ (b, st) :: s := by rw [HD.out]; simp
          obtain ⟨g, hao, hcell⟩ := hcells r'.length (b, st) (by rw [hsplit]; simp)
          have hcx : wr.cell? ⟨g, r'.length, none⟩ = some (.pointer (some ⟨b, 0, none⟩)) := cell_below hbx hcell
          have hrl : r'.length < don.length := by rw [hsplit]; simp
          have hnode : NodeAt wr b (ptr s) st := by
            have h1 := hch
            rw [← HE.out, hsplit] at h1
            exact (h1.node.below hbel).below hbx
          have hbound : (text (((b, st) :: s).map Prod.snd).reverse).length ≤ 16777216 := by
            have h1 := htext
            rw [← HE.out, hsplit] at h1
            exact Nat.le_trans (text_part r' ((b, st) :: s)) h1
          rw [rev_snoc, out_size, ← ptr_isNone] at hbound
          simp only at hbound
          have HS : Hid (don = r' ++ (b, st) :: s) := hsplit
          clear hsplit hcell
          rw [hao]
          rw [show (((r' ++ [(b, st)]).length : Nat) : Int) - 1 = (r'.length : Int) from by simp]
          have hBx : w1.heap.size ≤ wr.heap.size := hbx.size
          go_wp2_with fail
          refine (zzstep_any b _ st _ hnode).mono ?_
          rintro e w2 ⟨rfl, m, rfl⟩
          have hownm := own_draws m hown
          have hbm : Below w1.heap.size w1 (wr.drewN m) := below_drewN hbx m
          have hBm : w1.heap.size ≤ (wr.drewN m).heap.size := hBx
          go_wp2_with (at_builtin; refine wpList_append_own_string _ rfl (.tmp 38) (.tmp 39) 31 9 rfl w1.heap.size 5 i5 Try.underlying31 Try.underlying9 hj hy0 hy1 hy2 _ _ _ rfl hownm _ rfl ?a1 ?a2 ?a3 ?_)
          case a1 => unfold maxLen; omega
          case a2 => omega
          case a3 => exact hBm
          intro v1 wA hown1 hg1 _
          have hbA := below_own hbm hg1 hBm hownm
          have hBA : w1.heap.size ≤ wA.heap.size := hbA.size
          go_wp2_with (at_builtin; refine wpList_append_own_string _ rfl (.tmp 41) (.tmp 42) 31 9 rfl w1.heap.size 5 i5 Try.underlying31 Try.underlying9 hj hy0 hy1 hy2 _ _ _ rfl hown1 _ rfl ?b1 ?b2 ?b3 ?_)
          case b1 => unfold maxLen; omega
          case b2 => omega
          case b3 => exact hBA
          intro v2 wB hown2 hg2 _
          have hbB := below_own hbA hg2 hBA hown1
          have hBB : w1.heap.size ≤ wB.heap.size := hbB.size
          go_wp2_with (at_builtin; refine wpList_append_own_string _ rfl (.tmp 44) (.tmp 45) 31 9 rfl w1.heap.size 5 i5 Try.underlying31 Try.underlying9 hj hy0 hy1 hy2 _ _ _ rfl hown2 _ rfl ?d1 ?d2 ?d3 ?_)
          case d1 => unfold maxLen; omega
          case d2 => omega
          case d3 => exact hBB
          intro v3 wC hown3 hg3 _
          have hbC := below_own hbB hg3 hBB hown2
          have R := out_step (ptr_isNone s) (by simpa only [List.append_assoc] using hown3)
          clear hown3 hg3 hown2 hg2 hown1 hg1 hownm hown
          go_wp2_with fail
          go_roundw
          case rel => exact ⟨r', (b, st) :: s, HS.out, rfl, by rw [rev_snoc]; exact R, hbC⟩
          case measure => simp [intOf]
    | (b, s) :: r, hk, HNS, hdl =>
      have hnode : NodeAt w b (ptr r) s := by
        have h1 := hch
        rw [HNS.out] at h1
        exact h1.node
      simp only [ptr_cons]
      have hB : w.heap.size ≤ wr.heap.size := hbel.size
      go_wp2_with (at_builtin; refine wpList_append_own _ rfl (.tmp 11) (.tmp 13) 44 rfl w.heap.size 25 i25 (.pointer none) 1 8 Try.underlying44 hi hz0 hz1 hz2 rfl (by decide) _ _ _ rfl (hown.alloc _) ⟨wr.heap.size, 0, none⟩ 1 1 [.pointer (some ⟨b, 0, none⟩)] rfl rfl ?c1 ?c2 ?c3 ?c4 ?c5 ?_)
      case c1 =>
        intro j u hj
        match j, hj with
        | 0, hj => simp at hj; subst hj; simp [Addr.add]
      case c2 => intro u hu; simp at hu; subst hu; rfl
      case c3 => unfold maxLen; simp at hdl; omega
      case c4 => simp at hdl; omega
      case c5 => simp; omega
      intro v' w1 hown' hgrow _
      have hbel1 : Below w.heap.size w w1 := below_own (hbel.alloc hB _) hgrow (by simp; omega) (hown.alloc _)
      have hnode1 := hnode.below hbel1
      clear hgrow hown
      go_wp2_with fail
      refine (fields_any b _ s _ hnode1).mono ?_
      rintro e w2 ⟨rfl, n, rfl⟩
      go_wp2_with fail
      go_roundg r.length
      case rel => exact ⟨don ++ [(b, s)], r, by rw [HNS.out]; simp, rfl, rfl, own_draws n (by simpa [nodePtr] using hown'), hbel1.trans (below_drewN (Below.refl _ _) n)⟩
      case measure => rw [hk]; simp
end Go.Proofs.Qxb6617428a
