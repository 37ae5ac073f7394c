import Derived.Test.Qxb6617428aBase
import Derived.Deep.Slices
import Derived.Deep.Strs
import Derived.ChangeOld
namespace Go.Proofs.Qxb6617428a
open Go.ChangeShapes Go.WideShapes Go.ChangeAt Go.RowKit Go.Deep

theorem Try.cells34 : Try.prog.cellsOf 34 = 3 := by kernel_rfl
theorem Try.cells9 : Try.prog.cellsOf 9 = 1 := by kernel_rfl
theorem Try.cells4 : Try.prog.cellsOf 4 = 1 := by kernel_rfl

theorem list_of {P : Nat → Step → Prop} (n : Nat) (h : ∀ i, i < n → ∃ s, P i s) : ∃ S : List Step, S.length = n ∧ ∀ i s, S[i]? = some s → P i s := by
  induction n with
  | zero => exact ⟨[], rfl, fun i s hs => by simp at hs⟩
  | succ n ih =>
    obtain ⟨S, hl, hS⟩ := ih (fun i hi => h i (by omega))
    obtain ⟨s, hs⟩ := h n (by omega)
    refine ⟨S ++ [s], by simp [hl], fun i x hx => ?_⟩
    by_cases hi : i < S.length
    · rw [List.getElem?_append_left hi] at hx
      exact hS i x hx
    · rw [List.getElem?_append_right (by omega)] at hx
      have : i - S.length = 0 := by
        by_cases h0 : i - S.length = 0
        · exact h0
        · rw [List.getElem?_eq_none (by simp; omega)] at hx; cases hx
      rw [this] at hx
      simp at hx
      subst hx
      have : i = n := by omega
      subst this
      exact hs

/-- An argument of type '[]PathStep': its steps as plain data. -/
theorem steps_of_trod {H : Type} {enc : TypeId × Value → H} {W : World} {a : Option Addr} {len cap : Nat} {d : DataW H} {p : List MemPlace}
    (h : DataW.Trod enc Try.prog W 0 (fun _ => true) true 22 (.slice a len cap) d p) : ∃ S : List Step, S.length = len ∧ IsSteps W a S := by
  obtain ⟨fuel, hf⟩ := h
  rcases open_slice Try.underlying22 hf with ⟨hcs, _⟩ | ⟨x, l, c, m, n, D, Pl, hcs, hb, hl, hm, hmm, _, hx⟩
  · simp [Value.cells] at hcs
    obtain ⟨rfl, rfl, rfl⟩ := hcs
    exact ⟨[], rfl, by simp, by simp, fun i s hs => by simp at hs⟩
  · simp [Value.cells] at hcs
    obtain ⟨rfl, rfl, rfl⟩ := hcs
    have hlm : len ≤ m := by rw [hmm]; split <;> omega
    obtain ⟨S, hS, hP⟩ := list_of (P := fun i s => s.name.size ≤ maxLen ∧ ∃ b off, some x = some (⟨b, off, none⟩ : Addr) ∧ W.cell? ⟨b, off + i * 3, none⟩ = some (.string s.name) ∧ W.cell? ⟨b, off + i * 3 + 1, none⟩ = some (.bool s.sub) ∧ W.cell? ⟨b, off + i * 3 + 2, none⟩ = some (.bool s.key)) len (fun i hi => by
      obtain ⟨cs', h1, h2⟩ := hx i (by omega)
      rw [Try.cells34] at h1
      obtain ⟨_, hlen, hcell⟩ := World.cells?_some h1
      obtain ⟨y0, y1, y2, k, _, _, t0, t1, t2⟩ := trod_struct3 Try.underlying34 h2
      match cs', hlen with
      | [v0, v1, v2], _ =>
        rw [Try.cells9] at t0
        rw [Try.cells4] at t1 t2
        obtain ⟨s0, e0, _, hs0⟩ := DataW.trod_string Try.underlying9 t0
        obtain ⟨s1, e1, _⟩ := DataW.trod_bool Try.underlying4 t1
        obtain ⟨s2, e2, _⟩ := DataW.trod_bool Try.underlying4 t2
        simp at e0 e1 e2
        subst e0 e1 e2
        have hspot : x.spot = none := by
          obtain ⟨cz, z1, _⟩ := hx 0 (by omega)
          rw [Try.cells34] at z1
          obtain ⟨_, hlz, hz⟩ := World.cells?_some z1
          have gz := hz 0 (by omega)
          rw [List.getElem?_eq_getElem (by omega)] at gz
          simpa [Addr.add] using World.cell?_spot gz
        have g0 := hcell 0 (by omega)
        have g1 := hcell 1 (by omega)
        have g2 := hcell 2 (by omega)
        obtain ⟨b, off, spot⟩ := x
        simp only [add_add] at g0 g1 g2 hspot
        subst hspot
        simp only [add_plain] at g0 g1 g2
        exact ⟨⟨s0, s1, s2⟩, hs0, b, off, rfl, by simpa using g0, by simpa [Nat.add_assoc] using g1, by simpa [Nat.add_assoc] using g2⟩)
    refine ⟨S, hS, by omega, fun s hs => ?_, fun i s hs => (hP i s hs).2⟩
    obtain ⟨i, hi, rfl⟩ := List.getElem_of_mem hs
    exact (hP i _ (List.getElem?_eq_getElem hi)).1
end Go.Proofs.Qxb6617428a
