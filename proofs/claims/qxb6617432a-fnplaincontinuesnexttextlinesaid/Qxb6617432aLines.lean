/-
  Seat b6617432a: the plain mathematics of 'plainContinues': the first byte that is neither blank nor line break, the line breaks before it, its line's start and indent.
-/
import Derived.Test.Qxb6617432aMarks
namespace Go.Proofs.Qxb6617432a

/-- A blank or a line break. -/
def soft (c : Int) : Bool := blank c || c == 10

/-- c is the first place from pos on that holds neither a blank nor a line break, or the text's end. -/
structure First (s : ByteArray) (pos c : Nat) : Prop where
  lo : pos ≤ c
  hi : c ≤ s.size
  all : ∀ j, pos ≤ j → j < c → soft (byt s j) = true
  stop : c < s.size → soft (byt s c) = false

theorem First.unique {s : ByteArray} {pos c d : Nat} (h : First s pos c) (g : First s pos d) : c = d := by
  by_cases h1 : c < d
  · have := h.stop (by have := g.hi; omega)
    rw [g.all c h.lo h1] at this
    cases this
  by_cases h2 : d < c
  · have := g.stop (by have := h.hi; omega)
    rw [h.all d g.lo h2] at this
    cases this
  omega

def nlsN (s : ByteArray) (pos : Nat) : Nat → Nat
  | 0 => 0
  | n + 1 => nlsN s pos n + if byt s (pos + n) = 10 then 1 else 0
/-- The line breaks from pos up to c. -/
def nls (s : ByteArray) (pos c : Nat) : Nat := nlsN s pos (c - pos)

theorem nls_self (s : ByteArray) (pos : Nat) : nls s pos pos = 0 := by simp [nls, nlsN]
theorem nls_succ (s : ByteArray) {pos c : Nat} (h : pos ≤ c) : nls s pos (c + 1) = nls s pos c + if byt s c = 10 then 1 else 0 := by
  unfold nls
  rw [show c + 1 - pos = (c - pos) + 1 by omega, nlsN, show pos + (c - pos) = c by omega]
theorem nls_hit (s : ByteArray) {pos c : Nat} (h : pos ≤ c) (hc : byt s c = 10) : nls s pos (c + 1) = nls s pos c + 1 := by
  rw [nls_succ s h, if_pos hc]
theorem nls_miss (s : ByteArray) {pos c : Nat} (h : pos ≤ c) (hc : byt s c ≠ 10) : nls s pos (c + 1) = nls s pos c := by
  rw [nls_succ s h, if_neg hc]; rfl
theorem nls_skip (s : ByteArray) {pos c : Nat} (h : pos ≤ c) (n : Nat) (hn : ∀ j, c ≤ j → j < c + n → byt s j ≠ 10) : nls s pos (c + n) = nls s pos c := by
  induction n with
  | zero => rfl
  | succ n ih =>
    rw [show c + (n + 1) = (c + n) + 1 by omega, nls_miss s (by omega) (hn (c + n) (by omega) (by omega))]
    exact ih (fun j h1 h2 => hn j h1 (by omega))
theorem nls_skip' (s : ByteArray) {pos c d : Nat} (h : pos ≤ c) (hd : c ≤ d) (hn : ∀ j, c ≤ j → j < d → byt s j ≠ 10) : nls s pos d = nls s pos c := by
  have := nls_skip s h (d - c) (fun j h1 h2 => hn j h1 (by omega))
  rwa [show c + (d - c) = d by omega] at this
theorem nls_le (s : ByteArray) (pos c : Nat) : nls s pos c ≤ c - pos := by
  unfold nls
  generalize c - pos = n
  induction n with
  | zero => simp [nlsN]
  | succ n ih => unfold nlsN; split <;> omega
theorem nls_mono (s : ByteArray) {pos c d : Nat} (h : pos ≤ c) (hd : c ≤ d) : nls s pos c ≤ nls s pos d := by
  obtain ⟨n, rfl⟩ : ∃ n, d = c + n := ⟨d - c, by omega⟩
  clear hd
  induction n with
  | zero => exact Nat.le_refl _
  | succ n ih =>
    rw [show c + (n + 1) = (c + n) + 1 by omega, nls_succ s (by omega)]
    omega

/-- ls is the start of the line that holds c: right behind the last line break from pos on. -/
structure Last (s : ByteArray) (pos c ls : Nat) : Prop where
  lo : pos < ls
  hi : ls ≤ c
  nl : byt s (ls - 1) = 10
  none : ∀ j, ls ≤ j → j < c → byt s j ≠ 10

theorem Last.unique {s : ByteArray} {pos c l m : Nat} (h : Last s pos c l) (g : Last s pos c m) : l = m := by
  have a1 := h.lo; have a2 := h.hi; have a3 := g.lo; have a4 := g.hi
  by_cases h1 : l < m
  · exact absurd g.nl (h.none (m - 1) (by omega) (by omega))
  by_cases h2 : m < l
  · exact absurd h.nl (g.none (l - 1) (by omega) (by omega))
  omega

theorem Last.pos {s : ByteArray} {pos c l : Nat} (h : Last s pos c l) : 0 < nls s pos c := by
  have a1 := h.lo; have a2 := h.hi
  have e := nls_hit s (show pos ≤ l - 1 by omega) h.nl
  rw [show l - 1 + 1 = l by omega] at e
  have := nls_mono s (show pos ≤ l by omega) a2
  omega

theorem Last.keep {s : ByteArray} {pos c l : Nat} (h : Last s pos c l) (hc : byt s c ≠ 10) : Last s pos (c + 1) l :=
  ⟨h.lo, Nat.le_succ_of_le h.hi, h.nl, fun j h1 h2 => by
    by_cases e : j = c
    · rw [e]; exact hc
    · exact h.none j h1 (by omega)⟩
theorem Last.new {s : ByteArray} {pos c : Nat} (hp : pos ≤ c) (hc : byt s c = 10) : Last s pos (c + 1) (c + 1) :=
  ⟨by omega, Nat.le_refl _, by simpa using hc, fun j h1 h2 => by omega⟩

/-- The line that starts at ls opens with ind spaces, as far as c. -/
structure Indent (s : ByteArray) (ls c ind : Nat) : Prop where
  hi : ls + ind ≤ c
  all : ∀ j, ls ≤ j → j < ls + ind → byt s j = 32
  stop : ls + ind < c → byt s (ls + ind) ≠ 32

theorem Indent.unique {s : ByteArray} {ls c a b : Nat} (h : Indent s ls c a) (g : Indent s ls c b) : a = b := by
  have a1 := h.hi; have a2 := g.hi
  by_cases h1 : a < b
  · exact absurd (g.all (ls + a) (by omega) (by omega)) (h.stop (by omega))
  by_cases h2 : b < a
  · exact absurd (h.all (ls + b) (by omega) (by omega)) (g.stop (by omega))
  omega

/-- The line of c is refused. -/
def refused (s : ByteArray) (ls c ind : Nat) (mi : Int) (fl : Bool) : Bool := marker s ls || decide ((ind : Int) < mi) || byt s c == 35 || (fl && flow (byt s c)) || vcol s c fl

/-- What 'plainContinues' answers. -/
def PC (s : ByteArray) (pos : Nat) (mi : Int) (fl : Bool) (next br : Nat) (ok : Bool) : Prop :=
  ∃ c, First s pos c ∧
    ((c = s.size ∨ nls s pos c = 0) ∧ next = 0 ∧ br = 0 ∧ ok = false ∨
      ∃ ls ind, c < s.size ∧ Last s pos c ls ∧ Indent s ls c ind ∧
        (refused s ls c ind mi fl = true ∧ next = 0 ∧ br = 0 ∧ ok = false ∨ refused s ls c ind mi fl = false ∧ next = c ∧ br = nls s pos c ∧ ok = true))

theorem PC.none {s : ByteArray} {pos c : Nat} {mi : Int} {fl : Bool} {next br : Nat} {ok : Bool} (hF : First s pos c) (hc : c = s.size ∨ nls s pos c = 0) (h : PC s pos mi fl next br ok) : next = 0 ∧ br = 0 ∧ ok = false := by
  obtain ⟨d, hd, h⟩ := h
  obtain rfl := hF.unique hd
  rcases h with h | ⟨ls, ind, hlt, hl, hi, h⟩
  · exact h.2
  · have := hl.pos
    rcases hc with hc | hc <;> omega

theorem PC.ref {s : ByteArray} {pos c ls ind : Nat} {mi : Int} {fl : Bool} {next br : Nat} {ok : Bool} (hF : First s pos c) (hl : Last s pos c ls) (hi : Indent s ls c ind) (hr : refused s ls c ind mi fl = true)
    (h : PC s pos mi fl next br ok) : next = 0 ∧ br = 0 ∧ ok = false := by
  obtain ⟨d, hd, h⟩ := h
  obtain rfl := hF.unique hd
  have hp := hl.pos
  rcases h with h | ⟨ls', ind', _, hl', hi', h⟩
  · exact h.2
  · obtain rfl := hl.unique hl'
    obtain rfl := hi.unique hi'
    rcases h with h | h
    · exact h.2
    · rw [h.1] at hr; cases hr

theorem PC.go {s : ByteArray} {pos c ls ind : Nat} {mi : Int} {fl : Bool} {next br : Nat} {ok : Bool} (hF : First s pos c) (hlt : c < s.size) (hl : Last s pos c ls) (hi : Indent s ls c ind) (hr : refused s ls c ind mi fl = false)
    (h : PC s pos mi fl next br ok) : next = c ∧ br = nls s pos c ∧ ok = true := by
  obtain ⟨d, hd, h⟩ := h
  obtain rfl := hF.unique hd
  have hp := hl.pos
  rcases h with h | ⟨ls', ind', _, hl', hi', h⟩
  · rcases h.1 with e | e <;> omega
  · obtain rfl := hl.unique hl'
    obtain rfl := hi.unique hi'
    rcases h with h | h
    · rw [h.1] at hr; cases hr
    · exact h.2

/-- Where the outer loop of 'plainContinues' stands at its head. -/
structure Head (s : ByteArray) (pos k : Nat) : Prop where
  lo : pos ≤ k
  hi : k ≤ s.size
  all : ∀ j, pos ≤ j → j < k → soft (byt s j) = true
  stop : k < s.size → blank (byt s k) = false
  why : k < s.size → byt s k = 10 ∨ nls s pos k = 0

theorem blank_ne10 {c : Int} (h : blank c = true) : c ≠ 10 := by
  intro e
  rw [e] at h
  cases h
theorem blank_soft {c : Int} (h : blank c = true) : soft c = true := by simp [soft, h]
theorem space_blank {c : Int} (h : c = 32) : blank c = true := by rw [h]; rfl

theorem Head.start {s : ByteArray} {pos k : Nat} (h : Skip s pos k) : Head s pos k ∧ nls s pos k = 0 := by
  have e : nls s pos k = 0 := by
    rw [nls_skip' s (Nat.le_refl pos) h.lo (fun j h1 h2 => blank_ne10 (h.all j h1 h2)), nls_self]
  exact ⟨⟨h.lo, h.hi, fun j h1 h2 => blank_soft (h.all j h1 h2), h.stop, fun _ => .inr e⟩, e⟩

/-- One round: behind the line break at k come spaces up to m and blanks up to q. -/
structure Round (s : ByteArray) (pos k m q : Nat) : Prop where
  head : Head s pos k
  lt : k < s.size
  nl : byt s k = 10
  m0 : k + 1 ≤ m
  sp : ∀ j, k + 1 ≤ j → j < m → byt s j = 32
  spStop : m < s.size → byt s m ≠ 32
  q0 : m ≤ q
  q1 : q ≤ s.size
  bl : ∀ j, m ≤ j → j < q → blank (byt s j) = true
  blStop : q < s.size → blank (byt s q) = false

theorem Round.allBlank {s : ByteArray} {pos k m q : Nat} (h : Round s pos k m q) : ∀ j, k + 1 ≤ j → j < q → blank (byt s j) = true := by
  intro j h1 h2
  by_cases e : j < m
  · exact space_blank (h.sp j h1 e)
  · exact h.bl j (by omega) h2

theorem Round.allSoft {s : ByteArray} {pos k m q : Nat} (h : Round s pos k m q) : ∀ j, pos ≤ j → j < q → soft (byt s j) = true := by
  intro j h1 h2
  by_cases e : j < k
  · exact h.head.all j h1 e
  by_cases e2 : j = k
  · rw [e2, h.nl]; rfl
  · exact blank_soft (h.allBlank j (by omega) h2)

theorem Round.count {s : ByteArray} {pos k m q : Nat} (h : Round s pos k m q) : nls s pos q = nls s pos k + 1 := by
  have a := h.head.lo; have b := h.m0; have c := h.q0
  rw [nls_skip' s (c := k + 1) (by omega) (by omega) (fun j h1 h2 => blank_ne10 (h.allBlank j h1 h2)), nls_hit s a h.nl]

theorem Round.next {s : ByteArray} {pos k m q : Nat} (h : Round s pos k m q) (hq : q < s.size → byt s q = 10) : Head s pos q := by
  have a := h.head.lo; have b := h.m0; have c := h.q0
  exact ⟨by omega, h.q1, h.allSoft, h.blStop, fun hlt => .inl (hq hlt)⟩

theorem Round.first {s : ByteArray} {pos k m q : Nat} (h : Round s pos k m q) (hq : byt s q ≠ 10) : First s pos q := by
  have a := h.head.lo; have b := h.m0; have c := h.q0
  refine ⟨by omega, h.q1, h.allSoft, fun hlt => ?_⟩
  have := h.blStop hlt
  simp [soft, this, hq]

theorem Round.last {s : ByteArray} {pos k m q : Nat} (h : Round s pos k m q) : Last s pos q (k + 1) := by
  have a := h.head.lo; have b := h.m0; have c := h.q0
  exact ⟨by omega, by omega, by simpa using h.nl, fun j h1 h2 => blank_ne10 (h.allBlank j h1 h2)⟩

theorem Round.indent {s : ByteArray} {pos k m q : Nat} (h : Round s pos k m q) : Indent s (k + 1) q (m - (k + 1)) := by
  have b := h.m0; have c := h.q0
  refine ⟨by omega, fun j h1 h2 => h.sp j h1 (by omega), fun hlt => ?_⟩
  rw [show k + 1 + (m - (k + 1)) = m by omega]
  exact h.spStop (by have := h.q1; omega)

/-- The loop is left at its head: no. -/
theorem Head.out {s : ByteArray} {pos k : Nat} {mi : Int} {fl : Bool} (h : Head s pos k) (hk : k < s.size → byt s k ≠ 10) : PC s pos mi fl 0 0 false := by
  refine ⟨k, ⟨h.lo, h.hi, h.all, fun hlt => ?_⟩, .inl ⟨?_, rfl, rfl, rfl⟩⟩
  · simp [soft, h.stop hlt, hk hlt]
  · by_cases hlt : k < s.size
    · rcases h.why hlt with e | e
      · exact absurd e (hk hlt)
      · exact .inr e
    · have := h.hi; exact .inl (by omega)

theorem Round.no {s : ByteArray} {pos k m q : Nat} {mi : Int} {fl : Bool} (h : Round s pos k m q) (hlt : q < s.size) (hq : byt s q ≠ 10) (hr : refused s (k + 1) q (m - (k + 1)) mi fl = true) : PC s pos mi fl 0 0 false :=
  ⟨q, h.first hq, .inr ⟨k + 1, m - (k + 1), hlt, h.last, h.indent, .inl ⟨hr, rfl, rfl, rfl⟩⟩⟩
theorem Round.yes {s : ByteArray} {pos k m q : Nat} {mi : Int} {fl : Bool} (h : Round s pos k m q) (hlt : q < s.size) (hq : byt s q ≠ 10) (hr : refused s (k + 1) q (m - (k + 1)) mi fl = false) : PC s pos mi fl q (nls s pos k + 1) true :=
  ⟨q, h.first hq, .inr ⟨k + 1, m - (k + 1), hlt, h.last, h.indent, .inr ⟨hr, rfl, h.count.symm, rfl⟩⟩⟩

end Go.Proofs.Qxb6617432a
