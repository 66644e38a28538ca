/- The grammar of RFC 8259 over a text of bytes, as relations between places; and what the readers of the reference answer, in its words. Plain Lean: no memory and no Go. -/
import Derived.Test.YtookccnmgoocpaaGreatDoorUgTie2
namespace Go.Proofs.YtookccnmgoocpaaGreatDoor.PTwo
open Go.RowKit Go.Proofs.YtookccnmgoocpaaGreatDoorW.PrintWords Go.Proofs.YtookccnmgoocpaaGreatDoorW.PrintLast Go.Proofs.YtookccnmgoocpaaGreatDoorW.PrintMore
set_option linter.unusedVariables false
def IsBlank (c : Int) : Prop := c = 32 ∨ c = 9 ∨ c = 10 ∨ c = 13
def IsHex (c : Int) : Prop := (48 ≤ c ∧ c ≤ 57) ∨ (97 ≤ c ∧ c ≤ 102) ∨ (65 ≤ c ∧ c ≤ 70)
def IsDigit (c : Int) : Prop := 48 ≤ c ∧ c ≤ 57
def IsShort (c : Int) : Prop := c = 34 ∨ c = 92 ∨ c = 47 ∨ c = 98 ∨ c = 102 ∨ c = 110 ∨ c = 114 ∨ c = 116
instance (c : Int) : Decidable (IsBlank c) := by unfold IsBlank; exact inferInstance
instance (c : Int) : Decidable (IsHex c) := by unfold IsHex; exact inferInstance
instance (c : Int) : Decidable (IsDigit c) := by unfold IsDigit; exact inferInstance
instance (c : Int) : Decidable (IsShort c) := by unfold IsShort; exact inferInstance
/-- Blanks from a place up to another. -/
inductive Ws (s : ByteArray) : Nat → Nat → Prop
  | nil (i : Nat) : Ws s i i
  | cons {i j : Nat} (h : i < s.size) (hb : IsBlank (bt s i)) (t : Ws s (i + 1) j) : Ws s i j
/-- The inside of a string from a place on, and its closing quotation mark; the second place is behind it. -/
inductive Chars (s : ByteArray) : Nat → Nat → Prop
  | close {i : Nat} (h : i < s.size) (hq : bt s i = 34) : Chars s i (i + 1)
  | plain {i j : Nat} (h : i < s.size) (h1 : bt s i ≠ 34) (h2 : bt s i ≠ 92) (h3 : 32 ≤ bt s i) (t : Chars s (i + 1) j) : Chars s i j
  | esc {i j : Nat} (h : i + 1 < s.size) (h1 : bt s i = 92) (h2 : IsShort (bt s (i + 1 : Nat))) (t : Chars s (i + 2) j) : Chars s i j
  | uni {i j : Nat} (h : i + 5 < s.size) (h1 : bt s i = 92) (h2 : bt s (i + 1 : Nat) = 117) (h3 : IsHex (bt s (i + 2 : Nat))) (h4 : IsHex (bt s (i + 3 : Nat))) (h5 : IsHex (bt s (i + 4 : Nat))) (h6 : IsHex (bt s (i + 5 : Nat))) (t : Chars s (i + 6) j) : Chars s i j
/-- Digits from a place up to another. -/
inductive Digs (s : ByteArray) : Nat → Nat → Prop
  | nil (i : Nat) : Digs s i i
  | cons {i j : Nat} (h : i < s.size) (hb : IsDigit (bt s i)) (t : Digs s (i + 1) j) : Digs s i j
/-- A number. -/
structure Num (s : ByteArray) (i j : Nat) : Prop where
  parts : ∃ a b c, ((a = i ∨ (i < s.size ∧ bt s i = 45 ∧ a = i + 1)) ∧ ((a < s.size ∧ bt s a = 48 ∧ b = a + 1) ∨ (a < b ∧ Digs s a b))) ∧
    (c = b ∨ (b < s.size ∧ bt s b = 46 ∧ b + 1 < c ∧ Digs s (b + 1) c)) ∧
    (j = c ∨ (c < s.size ∧ (bt s c = 101 ∨ bt s c = 69) ∧ ∃ d, (d = c + 1 ∨ (c + 1 < s.size ∧ (bt s (c + 1 : Nat) = 43 ∨ bt s (c + 1 : Nat) = 45) ∧ d = c + 2)) ∧ d < j ∧ Digs s d j))
/-- A word at a place. -/
def Word (s : ByteArray) (i : Nat) (w : List Int) : Prop := i + w.length ≤ s.size ∧ ∀ m, m < w.length → bt s (i + m : Nat) = w.getD m 0
mutual
/-- A value from a place up to another, and its tree of places. -/
inductive Val (s : ByteArray) : Nat → Nat → S40 → Prop
  | null {i : Nat} (h : Word s i [110, 117, 108, 108]) : Val s i (i + 4) ⟨0, i, (i + 4 : Nat), [], []⟩
  | fals {i : Nat} (h : Word s i [102, 97, 108, 115, 101]) : Val s i (i + 5) ⟨1, i, (i + 5 : Nat), [], []⟩
  | tru {i : Nat} (h : Word s i [116, 114, 117, 101]) : Val s i (i + 4) ⟨2, i, (i + 4 : Nat), [], []⟩
  | num {i j : Nat} (h : Num s i j) : Val s i j ⟨3, i, j, [], []⟩
  | str {i j : Nat} (h : i < s.size) (hq : bt s i = 34) (t : Chars s (i + 1) j) : Val s i j ⟨4, i, j, [], []⟩
  | arr0 {i a : Nat} (h : i < s.size) (hb : bt s i = 91) (hw : Ws s (i + 1) a) (ha : a < s.size) (he : bt s a = 93) : Val s i (a + 1) ⟨5, i, (a + 1 : Nat), [], []⟩
  | arr {i a j : Nat} {kids : List S40} (h : i < s.size) (hb : bt s i = 91) (hw : Ws s (i + 1) a) (hk : Elems s a j kids) : Val s i j ⟨5, i, j, [], kids⟩
  | obj0 {i a : Nat} (h : i < s.size) (hb : bt s i = 123) (hw : Ws s (i + 1) a) (ha : a < s.size) (he : bt s a = 125) : Val s i (a + 1) ⟨6, i, (a + 1 : Nat), [], []⟩
  | obj {i a j : Nat} {names : List S84} {kids : List S40} (h : i < s.size) (hb : bt s i = 123) (hw : Ws s (i + 1) a) (hk : Mems s a j names kids) : Val s i j ⟨6, i, j, names, kids⟩
/-- Elements, from the first one's place up to behind the closing bracket. -/
inductive Elems (s : ByteArray) : Nat → Nat → List S40 → Prop
  | last {i a b : Nat} {p : S40} (v : Val s i a p) (w : Ws s a b) (hb : b < s.size) (he : bt s b = 93) : Elems s i (b + 1) [p]
  | cons {i a b c j : Nat} {p : S40} {ps : List S40} (v : Val s i a p) (w : Ws s a b) (hb : b < s.size) (he : bt s b = 44) (w2 : Ws s (b + 1) c) (t : Elems s c j ps) : Elems s i j (p :: ps)
/-- Members, from the first name's place up to behind the closing brace. -/
inductive Mems (s : ByteArray) : Nat → Nat → List S84 → List S40 → Prop
  | last {i a b c d e : Nat} {p : S40} (hi : i < s.size) (hq : bt s i = 34) (n : Chars s (i + 1) a) (w : Ws s a b) (hb : b < s.size) (hc : bt s b = 58) (w2 : Ws s (b + 1) c) (v : Val s c d p) (w3 : Ws s d e) (he : e < s.size) (hz : bt s e = 125) : Mems s i (e + 1) [⟨i, a⟩] [p]
  | cons {i a b c d e f j : Nat} {p : S40} {ns : List S84} {ps : List S40} (hi : i < s.size) (hq : bt s i = 34) (n : Chars s (i + 1) a) (w : Ws s a b) (hb : b < s.size) (hc : bt s b = 58) (w2 : Ws s (b + 1) c) (v : Val s c d p) (w3 : Ws s d e) (he : e < s.size) (hz : bt s e = 44) (w4 : Ws s (e + 1) f) (t : Mems s f j ns ps) : Mems s i j (⟨i, a⟩ :: ns) (p :: ps)
end
theorem Ws.le {s : ByteArray} {i j : Nat} (h : Ws s i j) : i ≤ j := by induction h <;> omega
theorem Ws.size {s : ByteArray} {i j : Nat} (h : Ws s i j) (hi : i ≤ s.size) : j ≤ s.size := by
  induction h with
  | nil => exact hi
  | cons h1 _ _ ih => exact ih (by omega)
theorem Digs.size {s : ByteArray} {i j : Nat} (h : Digs s i j) (hi : i ≤ s.size) : j ≤ s.size := by
  induction h with
  | nil => exact hi
  | cons h1 _ _ ih => exact ih (by omega)
theorem Chars.lt {s : ByteArray} {i j : Nat} (h : Chars s i j) : i < j := by induction h <;> omega
theorem Chars.size {s : ByteArray} {i j : Nat} (h : Chars s i j) : j ≤ s.size := by induction h <;> omega
theorem Num.lt {s : ByteArray} {i j : Nat} (h : Num s i j) : i < j := by
  obtain ⟨a, b, c, ⟨h1, h2⟩, h3, h4⟩ := h.parts
  have ha : i ≤ a := by rcases h1 with h | h <;> omega
  have hb : a < b := by rcases h2 with h | h <;> omega
  have hc : b ≤ c := by rcases h3 with h | h <;> omega
  rcases h4 with h4 | ⟨_, _, d, hd, hj, _⟩
  · omega
  · rcases hd with hd | hd <;> omega
theorem Num.size {s : ByteArray} {i j : Nat} (h : Num s i j) (hi : i ≤ s.size) : j ≤ s.size := by
  obtain ⟨a, b, c, ⟨h1, h2⟩, h3, h4⟩ := h.parts
  have ha : a ≤ s.size := by rcases h1 with h | h <;> omega
  have hb : b ≤ s.size := by
    rcases h2 with h | ⟨_, h⟩
    · omega
    · exact h.size ha
  have hc : c ≤ s.size := by
    rcases h3 with h | ⟨_, _, _, h⟩
    · omega
    · exact h.size (by omega)
  rcases h4 with h4 | ⟨_, _, d, hd, hj, h⟩
  · omega
  · exact h.size (by rcases hd with hd | hd <;> omega)
end Go.Proofs.YtookccnmgoocpaaGreatDoor.PTwo
