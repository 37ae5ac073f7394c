/-
  Seat b6617428a: slices of the call's own: the nodes' pointers, the bytes of a text.
-/
import Derived.Test.Qxb6617428aStepWalk
import Derived.Lib.AppendStr
import Derived.Deep.LoopGhost
namespace Go.Proofs.Qxb6617428a
open Go.RowKit Go.Lib

theorem Try.info25 : (Try.prog.info? 25).map (fun i => (i.zero, i.size, i.bytes)) = some (some (.pointer none), 1, 8) := by kernel_rfl
theorem Try.info5 : (Try.prog.info? 5).map (fun i => (i.zero, i.size, i.bytes)) = some (some (.int .u8 0), 1, 1) := by kernel_rfl

/-- Bytes as cells. -/
def cellsOf (l : List UInt8) : List Value := l.map fun b => Value.int .u8 b.toNat

theorem cellsOf_append (a b : List UInt8) : cellsOf (a ++ b) = cellsOf a ++ cellsOf b := by simp [cellsOf]
theorem cellsOf_length (a : List UInt8) : (cellsOf a).length = a.length := by simp [cellsOf]
theorem strCells_eq (s : ByteArray) : strCells s = cellsOf s.data.toList := rfl

/-- A slice of bytes in memory. -/
structure Bytes (w : World) (v : Value) (l : List UInt8) : Prop where
  len : l.length ≤ maxLen
  shape : ∃ ao cap, v = .slice ao l.length cap ∧ (ao = none → l.length = 0 ∧ cap = 0) ∧ ∀ i b, l[i]? = some b → ∃ g off, ao = some ⟨g, off, none⟩ ∧ w.cell? ⟨g, off + i, none⟩ = some (.int .u8 b.toNat)

theorem Bytes.below {w w' : World} {v : Value} {l : List UInt8} (h : Bytes w v l) (hb : Below w.heap.size w w') : Bytes w' v l := by
  obtain ⟨hl, ao, cap, hv, hn, hc⟩ := h
  refine ⟨hl, ao, cap, hv, hn, fun i b hi => ?_⟩
  obtain ⟨g, off, ha, hcell⟩ := hc i b hi
  exact ⟨g, off, ha, cell_below hb hcell⟩

theorem Bytes.of_own {w : World} {base : Nat} {v : Value} {l : List UInt8} (h : w.ownsRow base 5 1 v l.length (cellsOf l)) : Bytes w v l := by
  have h' := h
  obtain ⟨_, h2⟩ := h
  rcases h2 with ⟨hv, h0⟩ | ⟨g, cap, cur, hv, _, _, hn, hm, _, _⟩
  · refine ⟨by omega, none, 0, by rw [hv, h0], fun _ => ⟨h0, rfl⟩, fun i b hi => ?_⟩
    rw [List.eq_nil_of_length_eq_zero h0] at hi
    simp at hi
  · refine ⟨by omega, _, cap, hv, fun h => by simp at h, fun i b hi => ?_⟩
    subst hv
    have hlt : i < l.length := by
      by_cases hc : i < l.length
      · exact hc
      · rw [List.getElem?_eq_none (by omega)] at hi; cases hi
    refine ⟨g, 0, rfl, ?_⟩
    rw [Nat.zero_add, h'.cellAt i (by omega)]
    simp [cellsOf, hi]

/-- A node's address as a value. -/
def nodePtr (n : Nat × Step) : Value := .pointer (some ⟨n.1, 0, none⟩)

/-- What is read of the slice of nodes. -/
theorem nodes_shape {w : World} {base : Nat} {v : Value} {ns : List (Nat × Step)} (h : w.ownsRow base 25 1 v ns.length (ns.map nodePtr)) :
    ∃ ao cap, v = .slice ao ns.length cap ∧ ∀ i n, ns[i]? = some n → ∃ g, ao = some ⟨g, 0, none⟩ ∧ w.cell? ⟨g, i, none⟩ = some (nodePtr n) := by
  have h' := h
  obtain ⟨_, h2⟩ := h
  rcases h2 with ⟨hv, h0⟩ | ⟨g, cap, cur, hv, _, _, hn, hm, _, _⟩
  · refine ⟨none, 0, by rw [hv, h0], fun i b hi => ?_⟩
    rw [List.eq_nil_of_length_eq_zero h0] at hi
    simp at hi
  · refine ⟨_, cap, hv, fun i b hi => ?_⟩
    subst hv
    have hlt : i < ns.length := by
      by_cases hc : i < ns.length
      · exact hc
      · rw [List.getElem?_eq_none (by omega)] at hi; cases hi
    refine ⟨g, rfl, ?_⟩
    rw [h'.cellAt i (by omega)]
    simp [hi]

theorem Chain.node {w : World} : ∀ {r : List (Nat × Step)} {n : Nat × Step} {s : List (Nat × Step)}, Chain w (r ++ n :: s) → NodeAt w n.1 (ptr s) n.2
  | [], _, _, h => h.1
  | _ :: _, _, _, h => Chain.node h.2

theorem ptr_isNone (s : List (Nat × Step)) : (ptr s).isNone = ((s.map Prod.snd).reverse).isEmpty := by
  cases s with
  | nil => rfl
  | cons n s => simp [ptr]

theorem below_own {B : Nat} {a w w' : World} {e : TypeId} {size n : Nat} {v : Value} {xs : List Value} (h : Below B a w) (hg : w.grownBy w' v.ownBlock) (hB : B ≤ w.heap.size) (ho : w.ownsRow B e size v n xs) : Below B a w' :=
  h.grown hg hB (fun k hk => (ho.lt k hk).1)

/-- One step appended to the text. -/
theorem out_step {w : World} {B : Nat} {v : Value} {L : List Step} {s : Step} {q : Bool} (hq : q = L.isEmpty)
    (h : w.ownsRow B 5 1 v ((text L).length + (pre q s).size + s.name.size + (post s).size) (cellsOf (text L) ++ strCells (pre q s) ++ strCells s.name ++ strCells (post s))) :
    w.ownsRow B 5 1 v (text (L ++ [s])).length (cellsOf (text (L ++ [s]))) := by
  subst hq
  have e1 : cellsOf (text (L ++ [s])) = cellsOf (text L) ++ strCells (pre L.isEmpty s) ++ strCells s.name ++ strCells (post s) := by
    rw [text_snoc, stepText_parts, cellsOf_append, cellsOf_append, cellsOf_append]
    simp [strCells_eq]
  have e2 : (text (L ++ [s])).length = (text L).length + (pre L.isEmpty s).size + s.name.size + (post s).size := by
    rw [text_snoc, stepText_parts, List.length_append, List.length_append, List.length_append, bytes_len, bytes_len, bytes_len]
    omega
  rw [e1, e2]
  exact h

theorem out_size {L : List Step} {s : Step} : (text (L ++ [s])).length = (text L).length + (pre L.isEmpty s).size + s.name.size + (post s).size := by
  rw [text_snoc, stepText_parts, List.length_append, List.length_append, List.length_append, bytes_len, bytes_len, bytes_len]
  omega
end Go.Proofs.Qxb6617428a
