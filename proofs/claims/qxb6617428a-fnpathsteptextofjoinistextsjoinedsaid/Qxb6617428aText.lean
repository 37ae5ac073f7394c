/-
  Seat b6617428a: the text of a path, as plain mathematics over lists (no Go in sight).
-/
import Derived.Test.Qxb6617428aBase
namespace Go.Proofs.Qxb6617428a

/-- What one step adds to the text; 'root': no step stands before it. -/
def stepText (root : Bool) (s : Step) : List UInt8 :=
  if s.sub then 91 :: (s.name.data.toList ++ [93]) else if root then s.name.data.toList else 46 :: s.name.data.toList

/-- The text of the steps that follow at least one other. -/
def tailText (L : List Step) : List UInt8 := (L.map (stepText false)).flatten

/-- The text of a path, its steps from the root. -/
def text : List Step → List UInt8
  | [] => []
  | s :: r => stepText true s ++ tailText r

theorem tailText_append (A B : List Step) : tailText (A ++ B) = tailText A ++ tailText B := by
  simp [tailText]

theorem text_snoc (L : List Step) (s : Step) : text (L ++ [s]) = text L ++ stepText L.isEmpty s := by
  cases L with
  | nil => simp [text, tailText]
  | cons t r => simp [text, tailText]

/-- The dot between two texts. -/
def dot (A B : List Step) : List UInt8 :=
  match A, B with
  | _ :: _, s :: _ => if s.sub then [] else [46]
  | _, _ => []

theorem stepText_false (s : Step) : stepText false s = (if s.sub then [] else [46]) ++ stepText true s := by
  unfold stepText
  by_cases h : s.sub = true <;> simp [h]

theorem text_join (A B : List Step) : text (A ++ B) = text A ++ (dot A B ++ text B) := by
  cases A with
  | nil => simp [text, dot]
  | cons a A =>
    cases B with
    | nil => simp [text, dot]
    | cons b B =>
      simp only [text, dot, List.cons_append]
      rw [tailText_append]
      simp only [tailText, List.map_cons, List.flatten_cons]
      rw [stepText_false]
      simp [List.append_assoc]

/-- The number of bytes that the text's length counts for step i. -/
def stepLen (root : Bool) (s : Step) : Nat := s.name.size + if s.sub then 2 else if root then 0 else 1

theorem bytes_len (b : ByteArray) : b.data.toList.length = b.size := by
  rw [Array.length_toList]; rfl

theorem stepText_len (root : Bool) (s : Step) : (stepText root s).length = stepLen root s := by
  unfold stepText stepLen
  by_cases h : s.sub = true
  · simp only [h, if_true, List.length_cons, List.length_append, List.length_nil, bytes_len]
  · cases root <;> simp [h]

theorem text_len_take (L : List Step) (k : Nat) (h : k < L.length) : (text (L.take (k + 1))).length = (text (L.take k)).length + stepLen (decide (k = 0)) L[k] := by
  rw [List.take_succ_eq_append_getElem h, text_snoc, List.length_append, stepText_len]
  congr 2
  cases k with
  | zero => simp
  | succ k =>
    cases L with
    | nil => simp at h
    | cons a L => simp

/-- The sum of the names' lengths. -/
def total (S : List Step) : Nat := (S.map fun s => s.name.size).sum

theorem text_bound (L : List Step) : (text L).length ≤ total L + 2 * L.length := by
  have ht : ∀ M : List Step, (tailText M).length ≤ total M + 2 * M.length := by
    intro M
    induction M with
    | nil => simp [tailText, total]
    | cons s M ih =>
      have h1 : tailText (s :: M) = stepText false s ++ tailText M := rfl
      have h2 : total (s :: M) = s.name.size + total M := by simp [total]
      rw [h1, h2, List.length_append, stepText_len, List.length_cons]
      unfold stepLen
      split <;> simp <;> omega
  cases L with
  | nil => simp [text]
  | cons s L =>
    have h := ht L
    have h2 : total (s :: L) = s.name.size + total L := by simp [total]
    rw [text, h2, List.length_append, stepText_len, List.length_cons]
    unfold stepLen
    split <;> simp <;> omega

/-- A prefix's text is no longer than the whole. -/
theorem text_take_le (A B : List Step) : (text A).length ≤ (text (A ++ B)).length := by
  rw [text_join]; simp

end Go.Proofs.Qxb6617428a
