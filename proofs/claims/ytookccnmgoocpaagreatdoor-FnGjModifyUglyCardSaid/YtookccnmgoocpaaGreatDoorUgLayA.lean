/- Plain facts on the printer's places: where a number and a string end in a text of the grammar. -/
import Derived.Test.YtookccnmgoocpaaGreatDoorUgPrD
import Derived.Test.YtookccnmgoocpaaGreatDoorUgGramB
namespace Go.Proofs.YtookccnmgoocpaaGreatDoor.PTwo
open Go.RowKit Go.Proofs.YtookccnmgoocpaaGreatDoorW.PrintWords Go.Proofs.YtookccnmgoocpaaGreatDoorW.PrintLast Go.Proofs.YtookccnmgoocpaaGreatDoorW.PrintMore
set_option linter.unusedVariables false
/-- Behind a value: the end of the text, or what ends a number. -/
def Fol (s : ByteArray) (j : Nat) : Prop := j < s.size → isDelim (bt s j)
theorem IsBlank.le {c : Int} (h : IsBlank c) : c ≤ 32 := by unfold IsBlank at h; omega
theorem Ws.fol {s : ByteArray} {i j : Nat} (h : Ws s i j) (hj : Fol s j) : Fol s i := by
  cases h with
  | nil => exact hj
  | cons h1 hb t => exact fun _ => Or.inl hb.le
theorem fol_of {s : ByteArray} {j : Nat} (h : bt s j = 44 ∨ bt s j = 58 ∨ bt s j = 93 ∨ bt s j = 125) : Fol s j := fun _ => by unfold isDelim; omega
theorem numEnd_go (l : List Int) (j : Nat) (hj : j ≤ l.length) (hf : j < l.length → isDelim (rd l (j : Nat))) : ∀ d, d ≤ l.length → l.length - d ≤ j → (∀ q, l.length - d ≤ q → q < j → ¬ isDelim (rd l (q : Nat))) → numEnd l d = j := by
  intro d
  induction d with
  | zero => intro h1 h2 h3; simp only [numEnd]; omega
  | succ d ih =>
    intro h1 h2 h3
    rw [numEnd]
    by_cases e : l.length - (d + 1) = j
    · rw [e, if_pos (hf (by omega))]
    · rw [if_neg (h3 _ (Nat.le_refl _) (by omega))]
      exact ih (by omega) (by omega) (fun q h4 h5 => h3 q (by omega) h5)
theorem Digs.all {s : ByteArray} {i j : Nat} (h : Digs s i j) : ∀ q, i ≤ q → q < j → IsDigit (bt s (q : Nat)) := by
  induction h with
  | nil i => intro q h1 h2; omega
  | @cons a b h1 hb t ih =>
    intro q h2 h3
    by_cases e : q = a
    · subst e; exact hb
    · exact ih q (by omega) h3
/-- What stands in a number. -/
def NumChar (c : Int) : Prop := IsDigit c ∨ c = 45 ∨ c = 46 ∨ c = 43 ∨ c = 101 ∨ c = 69
theorem Num.all {s : ByteArray} {i j : Nat} (h : Num s i j) : ∀ q, i ≤ q → q < j → NumChar (bt s (q : Nat)) := by
  obtain ⟨a, b, c, ⟨h1, h2⟩, h3, h4⟩ := h.parts
  intro q hi hj
  have ha : i ≤ a := by rcases h1 with h | h <;> omega
  have hb : a < b := by rcases h2 with h | h <;> omega
  have hc : b ≤ c := by rcases h3 with h | h <;> omega
  by_cases q1 : q < a
  · rcases h1 with h | ⟨_, h, h'⟩
    · omega
    · obtain rfl : q = i := by omega
      exact Or.inr (Or.inl h)
  by_cases q2 : q < b
  · rcases h2 with ⟨_, h, h'⟩ | ⟨_, h⟩
    · obtain rfl : q = a := by omega
      left; unfold IsDigit; omega
    · exact Or.inl (h.all q (by omega) q2)
  by_cases q3 : q < c
  · rcases h3 with h | ⟨_, h, h', hd⟩
    · omega
    · by_cases e : q = b
      · subst e; exact Or.inr (Or.inr (Or.inl h))
      · exact Or.inl (hd.all q (by omega) q3)
  · rcases h4 with h | ⟨_, h, d, hd, hdj, hg⟩
    · omega
    · by_cases e : q = c
      · subst e; rcases h with h | h
        · exact Or.inr (Or.inr (Or.inr (Or.inr (Or.inl h))))
        · exact Or.inr (Or.inr (Or.inr (Or.inr (Or.inr h))))
      · by_cases q4 : q < d
        · rcases hd with hd | ⟨_, hs, hd⟩
          · omega
          · obtain rfl : q = c + 1 := by omega
            rcases hs with hs | hs
            · exact Or.inr (Or.inr (Or.inr (Or.inl hs)))
            · exact Or.inr (Or.inl hs)
        · exact Or.inl (hg.all q (by omega) hj)
theorem NumChar.no {c : Int} (h : NumChar c) : ¬ isDelim c := by unfold NumChar IsDigit at h; unfold isDelim; omega
theorem Num.head {s : ByteArray} {i j : Nat} (h : Num s i j) : numHead (bt s (i : Nat)) := by
  obtain ⟨a, b, c, ⟨h1, h2⟩, h3, h4⟩ := h.parts
  unfold numHead
  rcases h1 with rfl | ⟨_, h, _⟩
  · rcases h2 with ⟨_, h, _⟩ | ⟨h, hd⟩
    · omega
    · have := hd.all a (Nat.le_refl _) h
      unfold IsDigit at this
      omega
  · omega
theorem Num.inside {s : ByteArray} {i j : Nat} (h : Num s i j) : i < s.size := by
  obtain ⟨a, b, c, ⟨h1, h2⟩, h3, h4⟩ := h.parts
  rcases h1 with rfl | ⟨h, _⟩
  · rcases h2 with ⟨h, _⟩ | ⟨h, hd⟩
    · exact h
    · cases hd with
      | nil => omega
      | cons h _ _ => exact h
  · exact h
theorem num_end {s : ByteArray} {i j : Nat} (h : Num s i j) (hf : Fol s j) : numEnd (bytesOf s) ((bytesOf s).length - (i + 1)) = j := by
  have hi := h.inside
  have hlt := h.lt
  have hj : j ≤ s.size := h.size (by omega)
  refine numEnd_go _ j (by rw [bytesOf_length]; exact hj) (fun hq => by rw [rd_bytesOf]; exact hf (by rw [bytesOf_length] at hq; exact hq)) _ (by omega) (by rw [bytesOf_length]; omega) (fun q h1 h2 => ?_)
  rw [rd_bytesOf]
  rw [bytesOf_length] at h1
  exact (h.all q (by omega) h2).no
theorem strEnd_skip (l : List Int) (i q : Nat) (hq : q < l.length) (h : ¬ (rd l (q : Nat) = 34 ∧ bsC l i (q - 1 - i) % 2 ≠ 1)) : strEnd l i (l.length - q) = strEnd l i (l.length - (q + 1)) := by
  obtain ⟨d, hd⟩ : ∃ d, l.length - q = d + 1 := ⟨l.length - q - 1, by omega⟩
  rw [hd, strEnd, if_neg (by rw [show l.length - (d + 1) = q from by omega]; exact h), show l.length - (q + 1) = d from by omega]
theorem strEnd_stop (l : List Int) (i q : Nat) (hq : q < l.length) (h : rd l (q : Nat) = 34 ∧ bsC l i (q - 1 - i) % 2 ≠ 1) : strEnd l i (l.length - q) = q + 1 := by
  obtain ⟨d, hd⟩ : ∃ d, l.length - q = d + 1 := ⟨l.length - q - 1, by omega⟩
  rw [hd, strEnd, if_pos (by rw [show l.length - (d + 1) = q from by omega]; exact h)]
  omega
theorem bsC_no (l : List Int) (i q : Nat) (hi : i < q) (h : rd l (q : Nat) ≠ 92) : bsC l i (q + 1 - 1 - i) = 0 := by
  obtain ⟨d, hd⟩ : ∃ d, q + 1 - 1 - i = d + 1 := ⟨q - i - 1, by omega⟩
  rw [hd, bsC, if_neg (by rw [show i + d + 1 = q from by omega]; exact h)]
theorem bsC_yes (l : List Int) (i q : Nat) (hi : i < q) (h : rd l (q : Nat) = 92) : bsC l i (q + 1 - 1 - i) = bsC l i (q - 1 - i) + 1 := by
  obtain ⟨d, hd⟩ : ∃ d, q + 1 - 1 - i = d + 1 := ⟨q - i - 1, by omega⟩
  rw [hd, bsC, if_pos (by rw [show i + d + 1 = q from by omega]; exact h), show q - 1 - i = d from by omega]
theorem IsHex.ne {c : Int} (h : IsHex c) : c ≠ 34 ∧ c ≠ 92 ∧ 32 < c := by unfold IsHex at h; omega
/-- From a place in a string where no escape is open, the printer's search ends where the grammar's string does. -/
theorem str_go {s : ByteArray} {q j : Nat} (h : Chars s q j) : ∀ i, i < q → bsC (bytesOf s) i (q - 1 - i) % 2 = 0 → strEnd (bytesOf s) i ((bytesOf s).length - q) = j := by
  have hl := bytesOf_length s
  induction h with
  | close h hq =>
    intro i hi hp
    exact strEnd_stop _ _ _ (by omega) ⟨by rw [rd_bytesOf]; exact hq, by omega⟩
  | plain h h1 h2 h3 t ih =>
    intro i hi hp
    rw [strEnd_skip _ _ _ (by omega) (by rw [rd_bytesOf]; exact fun h => h1 h.1)]
    exact ih i (by omega) (by rw [bsC_no _ _ _ hi (by rw [rd_bytesOf]; exact h2)])
  | @esc q j h h1 h2 t ih =>
    intro i hi hp
    have c1 := bsC_yes (bytesOf s) i q hi (by rw [rd_bytesOf]; exact h1)
    rw [strEnd_skip _ _ _ (by omega) (by rw [rd_bytesOf]; intro h; omega), strEnd_skip _ _ _ (by omega) (by rw [c1]; intro h; omega)]
    refine ih i (by omega) ?_
    by_cases e : bt s ((q + 1 : Nat) : Int) = 92
    · have c2 := bsC_yes (bytesOf s) i (q + 1) (by omega) (by rw [rd_bytesOf]; exact e)
      rw [show q + 2 - 1 - i = q + 1 + 1 - 1 - i from by omega, c2, c1]; omega
    · have c2 := bsC_no (bytesOf s) i (q + 1) (by omega) (by rw [rd_bytesOf]; exact e)
      rw [show q + 2 - 1 - i = q + 1 + 1 - 1 - i from by omega, c2]
  | @uni q j h h1 h2 h3 h4 h5 h6 t ih =>
    intro i hi hp
    rw [strEnd_skip _ _ q (by omega) (by rw [rd_bytesOf]; intro h; omega), strEnd_skip _ _ (q + 1) (by omega) (by rw [rd_bytesOf]; intro h; omega),
      strEnd_skip _ _ (q + 2) (by omega) (by rw [rd_bytesOf]; intro h; exact h3.ne.1 h.1), strEnd_skip _ _ (q + 3) (by omega) (by rw [rd_bytesOf]; intro h; exact h4.ne.1 h.1),
      strEnd_skip _ _ (q + 4) (by omega) (by rw [rd_bytesOf]; intro h; exact h5.ne.1 h.1), strEnd_skip _ _ (q + 5) (by omega) (by rw [rd_bytesOf]; intro h; exact h6.ne.1 h.1)]
    exact ih i (by omega) (by have := bsC_no (bytesOf s) i (q + 5) (by omega) (by rw [rd_bytesOf]; exact h6.ne.2.1); rw [show q + 6 - 1 - i = q + 5 + 1 - 1 - i from by omega, this])
theorem str_end {s : ByteArray} {i j : Nat} (h : Chars s (i + 1) j) : strEnd (bytesOf s) i ((bytesOf s).length - (i + 1)) = j :=
  str_go h i (by omega) (by rw [show i + 1 - 1 - i = 0 from by omega]; rfl)
/-- The first byte of a value. -/
def ValHead (c : Int) : Prop := c = 34 ∨ numHead c ∨ c = 116 ∨ c = 102 ∨ c = 110 ∨ c = 91 ∨ c = 123
theorem Val.head {s : ByteArray} {i j : Nat} {p : S40} (h : Val s i j p) : i < s.size ∧ ValHead (bt s (i : Nat)) := by
  unfold ValHead
  cases h with
  | null h => have h0 := h.2 0 (by decide); have h1 := h.1; simp at h0 h1; exact ⟨by omega, by rw [h0]; decide⟩
  | fals h => have h0 := h.2 0 (by decide); have h1 := h.1; simp at h0 h1; exact ⟨by omega, by rw [h0]; decide⟩
  | tru h => have h0 := h.2 0 (by decide); have h1 := h.1; simp at h0 h1; exact ⟨by omega, by rw [h0]; decide⟩
  | num h => exact ⟨h.inside, Or.inr (Or.inl h.head)⟩
  | str h hq t => exact ⟨h, Or.inl hq⟩
  | arr0 h hb hw ha he => exact ⟨h, by omega⟩
  | arr h hb hw hk => exact ⟨h, by omega⟩
  | obj0 h hb hw ha he => exact ⟨h, by omega⟩
  | obj h hb hw hk => exact ⟨h, by omega⟩
/-- What the printer appends for a leaf. -/
theorem leaf_run {s : ByteArray} {i j : Nat} {p : S40} (h : Val s i j p) (hf : Fol s j) (h1 : bt s (i : Nat) ≠ 91) (h2 : bt s (i : Nat) ≠ 123) (o : List Int) : ∃ r, prLeaf (bytesOf s) o i = some (r, j) ∧ o.length ≤ r.length ∧ r.length ≤ o.length + (j - i) := by
  have hl := bytesOf_length s
  cases h with
  | null h =>
    have h0 := h.2 0 (by decide); have h3 := h.2 1 (by decide); have h4 := h.1
    simp at h0 h3 h4
    unfold prLeaf
    rw [rd_bytesOf, rd_bytesOf, h0, if_neg (by decide), if_neg (by decide), if_neg (by decide), if_neg (by decide), if_pos rfl, if_pos (by omega), if_pos (by rw [← h3]; congr 1)]
    exact ⟨_, rfl, by simp, by simp⟩
  | fals h =>
    have h0 := h.2 0 (by decide); have h4 := h.1
    simp at h0 h4
    unfold prLeaf
    rw [rd_bytesOf, h0, if_neg (by decide), if_neg (by decide), if_neg (by decide), if_pos rfl]
    exact ⟨_, rfl, by simp, by simp⟩
  | tru h =>
    have h0 := h.2 0 (by decide); have h4 := h.1
    simp at h0 h4
    unfold prLeaf
    rw [rd_bytesOf, h0, if_neg (by decide), if_neg (by decide), if_pos rfl]
    exact ⟨_, rfl, by simp, by simp⟩
  | num h =>
    have hh := h.head
    have hlt := h.lt
    unfold prLeaf
    rw [rd_bytesOf, if_neg (by unfold numHead at hh; omega), if_pos hh, num_end h hf]
    exact ⟨_, rfl, by simp, by simp only [List.length_append, List.length_take, List.length_drop]; omega⟩
  | str h hq t =>
    have hlt := t.lt
    unfold prLeaf
    rw [rd_bytesOf, if_pos hq, str_end t]
    exact ⟨_, rfl, by simp, by simp only [List.length_append, List.length_take, List.length_drop]; omega⟩
  | arr0 h hb hw ha he => exact absurd hb h1
  | arr h hb hw hk => exact absurd hb h1
  | obj0 h hb hw ha he => exact absurd hb h2
  | obj h hb hw hk => exact absurd hb h2
end Go.Proofs.YtookccnmgoocpaaGreatDoor.PTwo
