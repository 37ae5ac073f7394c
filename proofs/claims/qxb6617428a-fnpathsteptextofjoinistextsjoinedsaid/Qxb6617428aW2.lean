import Derived.Test.Qxb6617428aW1
import Derived.Deep.QuietTactic
import Derived.BigQuiet
import Derived.Deep.RegionWith
import Derived.BigRegion
namespace Go.Proofs.Qxb6617428a
open Go.RowKit

/-- Where the leaf of a path lies; 'ns': its nodes from the leaf to the root, each its block and its step. -/
def ptr : List (Nat × Step) → Option Addr
  | [] => none
  | n :: _ => some ⟨n.1, 0, none⟩

theorem ptr_nil : ptr [] = none := rfl
theorem ptr_cons (b : Nat) (s : Step) (r : List (Nat × Step)) : ptr ((b, s) :: r) = some ⟨b, 0, none⟩ := rfl

/-- One node in memory. -/
structure NodeAt (w : World) (b : Nat) (q : Option Addr) (s : Step) : Prop where
  c0 : w.cell? ⟨b, 0, none⟩ = some (.pointer q)
  c1 : w.cell? ⟨b, 1, none⟩ = some (.string s.name)
  c2 : w.cell? ⟨b, 2, none⟩ = some (.bool s.sub)
  c3 : w.cell? ⟨b, 3, none⟩ = some (.bool s.key)

/-- The nodes lie in memory, each leading to the next. -/
def Chain (w : World) : List (Nat × Step) → Prop
  | [] => True
  | n :: r => NodeAt w n.1 (ptr r) n.2 ∧ Chain w r

theorem NodeAt.below {w w' : World} (hb : Below w.heap.size w w') {b : Nat} {q : Option Addr} {s : Step} (h : NodeAt w b q s) : NodeAt w' b q s :=
  ⟨cell_below hb h.c0, cell_below hb h.c1, cell_below hb h.c2, cell_below hb h.c3⟩

theorem Chain.below {w w' : World} (hb : Below w.heap.size w w') : ∀ {ns : List (Nat × Step)}, Chain w ns → Chain w' ns
  | [], _ => trivial
  | _ :: _, h => ⟨h.1.below hb, Chain.below hb h.2⟩

/-- The block of a node. -/
def nodeObj (q : Option Addr) (s : Step) : Obj := .cells #[.pointer q, .string s.name, .bool s.sub, .bool s.key] 40

theorem nodeAt_new (w : World) (q : Option Addr) (s : Step) : NodeAt (w.alloc (nodeObj q s)) w.heap.size q s := by
  constructor <;> simp [nodeObj]

/-- 'ZZNew' -/
theorem new_any (q : Option Addr) (nm : ByteArray) (sub key : Bool) (w : World) :
    Calls Try.prog 18 #[.pointer q, .string nm, .bool sub, .bool key] w fun e w' => e = .returned (.pointer (some ⟨w.heap.size, 0, none⟩)) ∧ w' = w.alloc (.cells #[.pointer q, .string nm, .bool sub, .bool key] 40) := by
  go_enter Try.func18, Try.ntmps18
  go_wp2
  go_ret
  exact ⟨rfl, rfl⟩

/-- 'ZZFields' -/
theorem fields_any (b : Nat) (q : Option Addr) (s : Step) (w : World) (h : NodeAt w b q s) :
    Calls Try.prog 20 #[.pointer (some ⟨b, 0, none⟩)] w fun e w' => e = .returned (.tuple #[.pointer q, .string s.name, .bool s.sub, .bool s.key]) ∧ ∃ n, w' = w.drewN n := by
  obtain ⟨h0, h1, h2, h3⟩ := h
  go_enter Try.func20, Try.ntmps20
  go_wp2
  go_quiet (fail)
  go_wp2
  exact bodyPost_ret (v := .tuple #[.pointer q, .string s.name, .bool s.sub, .bool s.key]) (by simp [results, Try.results20, go_sem]) rfl ⟨rfl, _, rfl⟩

theorem chain_push {w wr : World} {ns : List (Nat × Step)} (hch : Chain wr ns) (hbel : Below w.heap.size w wr) (s : Step) :
    Chain (wr.alloc (.cells #[.pointer (ptr ns), .string s.name, .bool s.sub, .bool s.key] 40)).drew ((wr.heap.size, s) :: ns) ∧ Below w.heap.size w (wr.alloc (.cells #[.pointer (ptr ns), .string s.name, .bool s.sub, .bool s.key] 40)).drew := by
  have hnew : Below wr.heap.size wr (wr.alloc (.cells #[.pointer (ptr ns), .string s.name, .bool s.sub, .bool s.key] 40)).drew := ((Below.refl _ _).alloc (Nat.le_refl _) _).drew
  refine ⟨⟨?_, hch.below hnew⟩, hbel.trans (hnew.mono hbel.size)⟩
  constructor <;> simp

theorem map_step {S : List Step} {k : Nat} (hlt : k < S.length) {ns : List (Nat × Step)} (h : ns.map Prod.snd = (S.take k).reverse) (b : Nat) : ((b, S[k]) :: ns).map Prod.snd = (S.take (k + 1)).reverse := by
  rw [List.take_succ_eq_append_getElem hlt, List.reverse_append, List.map_cons, h]
  rfl

end Go.Proofs.Qxb6617428a
