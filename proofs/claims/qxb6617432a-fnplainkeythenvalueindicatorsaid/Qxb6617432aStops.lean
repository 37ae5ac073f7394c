/-
  Seat b6617432a: the plain mathematics of 'plainLineEnd': the first stopper, and the blanks before it left out.
-/
import Derived.Test.Qxb6617432aMarks
namespace Go.Proofs.Qxb6617432a

/-- Does the byte at j end, on its line, the text of a plain scalar that starts at pos? -/
def stopper (s : ByteArray) (pos : Nat) (fl : Bool) (j : Nat) : Bool :=
  byt s j == 10 || (fl && flow (byt s j)) || vcol s j fl || (byt s j == 35 && (decide (pos < j) && blank (byt s (j - 1))))

/-- t is the first stopper from pos on, or the text's end. -/
structure FirstStop (s : ByteArray) (pos : Nat) (fl : Bool) (t : Nat) : Prop where
  lo : pos ≤ t
  hi : t ≤ s.size
  all : ∀ j, pos ≤ j → j < t → stopper s pos fl j = false
  stop : t < s.size → stopper s pos fl t = true

theorem FirstStop.unique {s : ByteArray} {pos : Nat} {fl : Bool} {c d : Nat} (h : FirstStop s pos fl c) (g : FirstStop s pos fl d) : c = d := by
  by_cases h1 : c < d
  · have := h.stop (by have := g.hi; omega)
    rw [g.all c h.lo h1] at this
    cases this
  by_cases h2 : d < c
  · have := g.stop (by have := h.hi; omega)
    rw [h.all d g.lo h2] at this
    cases this
  omega

/-- e is t with the blanks before it left out, no lower than pos. -/
structure Trim (s : ByteArray) (pos t e : Nat) : Prop where
  lo : pos ≤ e
  hi : e ≤ t
  all : ∀ j, e ≤ j → j < t → blank (byt s j) = true
  stop : pos < e → blank (byt s (e - 1)) = false

theorem Trim.unique {s : ByteArray} {pos t c d : Nat} (h : Trim s pos t c) (g : Trim s pos t d) : c = d := by
  have a1 := h.lo; have a2 := h.hi; have a3 := g.lo; have a4 := g.hi
  by_cases h1 : c < d
  · have := g.stop (by omega)
    rw [h.all (d - 1) (by omega) (by omega)] at this
    cases this
  by_cases h2 : d < c
  · have := h.stop (by omega)
    rw [g.all (c - 1) (by omega) (by omega)] at this
    cases this
  omega

theorem blank_cases {c : Int} (h : blank c = true) : c = 32 ∨ c = 9 := by
  unfold blank at h
  simpa using h

theorem blank_stopper {s : ByteArray} {pos : Nat} {fl : Bool} {j : Nat} (h : blank (byt s j) = true) : stopper s pos fl j = false := by
  rcases blank_cases h with e | e <;> simp [stopper, vcol, e, flow]

/-- Where the loop of 'plainLineEnd' stands at its head. -/
structure Inv (s : ByteArray) (pos : Nat) (fl : Bool) (e i : Nat) : Prop where
  lo : pos ≤ e
  mid : e ≤ i
  hi : i ≤ s.size
  no : ∀ j, pos ≤ j → j < i → stopper s pos fl j = false
  bl : ∀ j, e ≤ j → j < i → blank (byt s j) = true
  stop : pos < e → blank (byt s (e - 1)) = false
  hash : pos < i → blank (byt s (i - 1)) = true → i < s.size → byt s i ≠ 35

theorem Inv.start {s : ByteArray} {pos : Nat} {fl : Bool} (h : pos ≤ s.size) : Inv s pos fl pos pos :=
  ⟨Nat.le_refl _, Nat.le_refl _, h, fun j h1 h2 => by omega, fun j h1 h2 => by omega, fun h => by omega, fun h => by omega⟩

/-- What the line's end is. -/
def PLE (s : ByteArray) (pos : Nat) (fl : Bool) (e : Nat) : Prop := ∃ t, FirstStop s pos fl t ∧ Trim s pos t e

theorem PLE.unique {s : ByteArray} {pos : Nat} {fl : Bool} {t c d : Nat} (hF : FirstStop s pos fl t) (hT : Trim s pos t c) (h : PLE s pos fl d) : d = c := by
  obtain ⟨u, hu, hd⟩ := h
  obtain rfl := hF.unique hu
  exact hd.unique hT

theorem Inv.trim {s : ByteArray} {pos : Nat} {fl : Bool} {e i : Nat} (h : Inv s pos fl e i) : Trim s pos i e := ⟨h.lo, h.mid, h.bl, h.stop⟩

/-- It stops at i. -/
theorem Inv.here {s : ByteArray} {pos : Nat} {fl : Bool} {e i : Nat} (h : Inv s pos fl e i) (hs : i < s.size → stopper s pos fl i = true) : PLE s pos fl e :=
  ⟨i, ⟨Nat.le_trans h.lo h.mid, h.hi, h.no, hs⟩, h.trim⟩

/-- Blanks from i up to m. -/
theorem Inv.blanks {s : ByteArray} {pos : Nat} {fl : Bool} {e i m : Nat} (h : Inv s pos fl e i) (him : i ≤ m) (hm : m ≤ s.size) (hb : ∀ j, i ≤ j → j < m → blank (byt s j) = true) (hh : m < s.size → byt s m ≠ 35) : Inv s pos fl e m := by
  have a := h.mid
  refine ⟨h.lo, by omega, hm, fun j h1 h2 => ?_, fun j h1 h2 => ?_, h.stop, fun _ _ => hh⟩
  · by_cases c : j < i
    · exact h.no j h1 c
    · exact blank_stopper (hb j (by omega) h2)
  · by_cases c : j < i
    · exact h.bl j h1 c
    · exact hb j (by omega) h2

/-- A comment behind blanks. -/
theorem Inv.comment {s : ByteArray} {pos : Nat} {fl : Bool} {e i m : Nat} (h : Inv s pos fl e i) (him : i < m) (hm : m < s.size) (hb : ∀ j, i ≤ j → j < m → blank (byt s j) = true) (hh : byt s m = 35) : PLE s pos fl e := by
  have a := h.mid; have b := h.lo
  refine ⟨m, ⟨by omega, by omega, fun j h1 h2 => ?_, fun _ => ?_⟩, ⟨h.lo, by omega, fun j h1 h2 => ?_, h.stop⟩⟩
  · by_cases c : j < i
    · exact h.no j h1 c
    · exact blank_stopper (hb j (by omega) h2)
  · have hbl := hb (m - 1) (by omega) (by omega)
    have hpm : pos < m := by omega
    simp [stopper, hh, hbl, hpm]
  · by_cases c : j < i
    · exact h.bl j h1 c
    · exact hb j (by omega) h2

/-- A byte that is no blank and no stopper. -/
theorem Inv.step {s : ByteArray} {pos : Nat} {fl : Bool} {e i : Nat} (h : Inv s pos fl e i) (hi : i < s.size) (h10 : (byt s i == 10) = false) (hf : (fl && flow (byt s i)) = false) (hb : blank (byt s i) = false) (hv : vcol s i fl = false) : Inv s pos fl (i + 1) (i + 1) := by
  have a := h.mid; have b := h.lo
  refine ⟨by omega, Nat.le_refl _, by omega, fun j h1 h2 => ?_, fun j h1 h2 => by omega, fun _ => by simpa using hb, fun _ hbl => ?_⟩
  · by_cases c : j < i
    · exact h.no j h1 c
    · have : j = i := by omega
      subst this
      unfold stopper
      rw [h10, hf, hv]
      by_cases h35 : byt s j = 35
      · by_cases hp : pos < j
        · have : blank (byt s (j - 1)) = false := by
            cases hbl : blank (byt s (j - 1)) with
            | false => rfl
            | true => exact absurd h35 (h.hash hp hbl hi)
          simp [this]
        · simp [hp]
      · simp [h35]
  · simp at hbl
    rw [hb] at hbl
    cases hbl

theorem stop_nl {s : ByteArray} {pos : Nat} {fl : Bool} {i : Nat} (h : (byt s i == 10) = true) : stopper s pos fl i = true := by simp [stopper, h]
theorem stop_flow {s : ByteArray} {pos : Nat} {i : Nat} (h : flow (byt s i) = true) : stopper s pos true i = true := by simp [stopper, h]
theorem stop_col {s : ByteArray} {pos : Nat} {fl : Bool} {i : Nat} (h : vcol s i fl = true) : stopper s pos fl i = true := by simp [stopper, h]

end Go.Proofs.Qxb6617432a
