/- What the readers of the reference answer, in the words of the grammar: blanks, a byte, a string, a number, a word. Plain Lean: no memory and no Go. -/
import Derived.Test.YtookccnmgoocpaaGreatDoorUgGram
namespace Go.Proofs.YtookccnmgoocpaaGreatDoor.PTwo
open Go.RowKit Go.Proofs.YtookccnmgoocpaaGreatDoorW.PrintWords Go.Proofs.YtookccnmgoocpaaGreatDoorW.PrintLast Go.Proofs.YtookccnmgoocpaaGreatDoorW.PrintMore
set_option linter.unusedVariables false
theorem wrap_succ (i m : Nat) (h : i + m ≤ 9223372036854775807) : wrap64 ((i : Int) + (m : Int)) = ((i + m : Nat) : Int) := by unfold wrap64; omega
theorem wrap_one (i : Nat) (h : i + 1 ≤ 9223372036854775807) : wrap64 ((i : Int) + 1) = ((i + 1 : Nat) : Int) := by unfold wrap64; omega
theorem blank_yes {c : Int} (h : IsBlank c) : spec_Blank.f c = some true := by
  unfold spec_Blank.f
  rcases h with h | h | h | h <;> simp [h]
theorem blank_no {c : Int} (h : ¬ IsBlank c) : spec_Blank.f c = some false := by
  unfold IsBlank at h
  simp only [not_or] at h
  unfold spec_Blank.f
  simp [h.1, h.2.1, h.2.2.1, h.2.2.2]
/-- Blanks are gone over, all of them. -/
theorem blanks_l0 (s : ByteArray) (hs : s.size ≤ 2147483647) : ∀ d i, s.size - i = d → i ≤ s.size → ∃ j, Ev (fun k => spec_reader_blanks.l0 k s i) (s, (j : Nat)) ∧ Ws s i j ∧ i ≤ j ∧ j ≤ s.size ∧ (j < s.size → ¬ IsBlank (bt s j)) := by
  intro d
  induction d with
  | zero =>
    intro i hd hi
    refine ⟨i, Ev.step (f := fun _ => some (s, (i : Int))) (fun k => ?_) (Ev.now _), .nil i, Nat.le_refl _, hi, fun h => by omega⟩
    simp only [spec_reader_blanks.l0]
    rw [if_neg (by omega)]
  | succ d ih =>
    intro i hd hi
    have hlt : (i : Int) < (s.size : Int) := by omega
    by_cases hb : IsBlank (bt s i)
    · obtain ⟨j, e, w, h1, h2, h3⟩ := ih (i + 1) (by omega) (by omega)
      refine ⟨j, Ev.step (fun k => ?_) e, .cons (by omega) hb w, by omega, h2, h3⟩
      simp only [spec_reader_blanks.l0]
      rw [if_pos hlt, if_pos (by omega), blank_yes hb]
      simp only [Option.bind_some, if_true]
      rw [wrap_one i (by omega)]
    · refine ⟨i, Ev.step (f := fun _ => some (s, (i : Int))) (fun k => ?_) (Ev.now _), .nil i, Nat.le_refl _, hi, fun _ => hb⟩
      simp only [spec_reader_blanks.l0]
      rw [if_pos hlt, if_pos (by omega), blank_no hb]
      simp
theorem blanks_runs (s : ByteArray) (hs : s.size ≤ 2147483647) (i : Nat) (hi : i ≤ s.size) : ∃ j, Ev (fun k => spec_reader_blanks.f k s i) (s, (j : Nat)) ∧ Ws s i j ∧ i ≤ j ∧ j ≤ s.size ∧ (j < s.size → ¬ IsBlank (bt s j)) :=
  blanks_l0 s hs _ i rfl hi
theorem take_yes {s : ByteArray} (hs : s.size ≤ 2147483647) {i : Nat} {c : Int} (h : i < s.size) (hc : bt s i = c) : spec_reader_take.f s i c = some (true, s, ((i + 1 : Nat) : Int)) := by
  unfold spec_reader_take.f
  rw [if_pos (by omega), if_pos (by omega), if_pos hc, wrap_one i (by omega)]
theorem take_no {s : ByteArray} {i : Nat} {c : Int} (h : i < s.size → bt s i ≠ c) : spec_reader_take.f s i c = some (false, s, (i : Int)) := by
  unfold spec_reader_take.f
  by_cases hlt : i < s.size
  · rw [if_pos (by omega), if_pos (by omega), if_neg (h hlt)]
  · rw [if_neg (by omega)]
theorem here_in {s : ByteArray} {i : Nat} (h : i < s.size) : spec_reader_here.f s i = some (bt s i, s, (i : Int)) := by
  unfold spec_reader_here.f
  rw [if_pos (by omega), if_pos (by omega)]
theorem here_end {s : ByteArray} {i : Nat} (h : s.size ≤ i) : spec_reader_here.f s i = some (0, s, (i : Int)) := by
  unfold spec_reader_here.f
  rw [if_neg (by omega)]
/-- A hexadecimal digit's number. -/
def hexVal (c : Int) : Int := if 48 ≤ c ∧ c ≤ 57 then c - 48 else if 97 ≤ c ∧ c ≤ 102 then c - 87 else c - 55
theorem hex_yes {c : Int} (h : IsHex c) : Ev (fun k => spec_hexDigit.f k c) (hexVal c, true) := by
  refine Ev.of (fun k => spec_hexDigit.mono c k) (k := 2) ?_
  unfold spec_hexDigit.f hexVal
  unfold IsHex at h
  simp only [spec_hexDigit.j0, spec_hexDigit.j1]
  by_cases h1 : 48 ≤ c
  · by_cases h2 : c ≤ 57
    · simp [h1, h2]; omega
    · by_cases h3 : 97 ≤ c
      · have : c ≤ 102 := by omega
        simp [h1, h2, h3, this]; omega
      · have h4 : 65 ≤ c := by omega
        have h5 : c ≤ 70 := by omega
        simp [h1, h2, h3, h4, h5]; omega
  · omega
theorem hex_no {c : Int} (h : ¬ IsHex c) : Ev (fun k => spec_hexDigit.f k c) (0, false) := by
  refine Ev.of (fun k => spec_hexDigit.mono c k) (k := 2) ?_
  unfold spec_hexDigit.f
  unfold IsHex at h
  simp only [spec_hexDigit.j0, spec_hexDigit.j1]
  by_cases h1 : 48 ≤ c
  · have h2 : ¬ c ≤ 57 := by omega
    by_cases h3 : 97 ≤ c
    · have h4 : ¬ c ≤ 102 := by omega
      by_cases h5 : 65 ≤ c
      · have h6 : ¬ c ≤ 70 := by omega
        simp [h1, h2, h3, h4, h5, h6]
      · omega
    · by_cases h5 : 65 ≤ c
      · have h6 : ¬ c ≤ 70 := by omega
        simp [h1, h2, h3, h5, h6]
      · simp [h1, h2, h3, h5]
  · have h3 : ¬ 97 ≤ c := by omega
    have h5 : ¬ 65 ≤ c := by omega
    simp [h1, h3, h5]
/-- The four digits of an escape: so many are there, or it ends at the first that is none. -/
theorem four_runs (s : ByteArray) (hs : s.size ≤ 2147483647) : ∀ d m i, 4 - m = d → m ≤ 4 → i ≤ s.size → ∃ ok j, Ev (fun k => spec_reader_escape.l0 k (m : Nat) s (i : Nat)) (ok, s, (j : Nat)) ∧ i ≤ j ∧ j ≤ s.size ∧ (ok = true → j = i + d ∧ ∀ q, q < d → IsHex (bt s (i + q : Nat))) := by
  intro d
  induction d with
  | zero =>
    intro m i hd hm hi
    refine ⟨true, i, Ev.step (f := fun _ => some (true, s, (i : Int))) (fun k => ?_) (Ev.now _), Nat.le_refl _, hi, fun _ => ⟨rfl, fun q hq => by omega⟩⟩
    simp only [spec_reader_escape.l0]
    rw [if_neg (by omega)]
  | succ d ih =>
    intro m i hd hm hi
    by_cases hlt : i < s.size
    · by_cases hx : IsHex (bt s i)
      · obtain ⟨ok, j, e, h1, h2, h3⟩ := ih (m + 1) (i + 1) (by omega) (by omega) (by omega)
        refine ⟨ok, j, Ev.step (fun k => ?_) (Ev.bind (f := fun k b => if b.2 = true then spec_reader_escape.l0 k (m + 1 : Nat) s ((i + 1 : Nat) : Int) else some (false, s, (i : Int))) (hex_yes hx) (Ev.congr (fun k => if_pos rfl) e)), by omega, h2, fun ho => ?_⟩
        · simp only [spec_reader_escape.l0]
          rw [if_pos (by omega), here_in hlt]
          simp only [Option.bind_some]
          rw [wrap_one i (by omega), wrap_one m (by omega)]
        · obtain ⟨h4, h5⟩ := h3 ho
          refine ⟨by omega, fun q hq => ?_⟩
          cases q with
          | zero => exact hx
          | succ q =>
            have := h5 q (by omega)
            rwa [show i + 1 + q = i + (q + 1) from by omega] at this
      · refine ⟨false, i, Ev.step (fun k => ?_) (Ev.bind (f := fun k b => if b.2 = true then spec_reader_escape.l0 k (m + 1 : Nat) s ((i + 1 : Nat) : Int) else some (false, s, (i : Int))) (hex_no hx) (Ev.congr (fun k => if_neg (by simp)) (Ev.now _))), Nat.le_refl _, hi, fun ho => by cases ho⟩
        simp only [spec_reader_escape.l0]
        rw [if_pos (by omega), here_in hlt]
        simp only [Option.bind_some]
        rw [wrap_one i (by omega), wrap_one m (by omega)]
    · have hx : ¬ IsHex 0 := by decide
      refine ⟨false, i, Ev.step (fun k => ?_) (Ev.bind (f := fun k b => if b.2 = true then spec_reader_escape.l0 k (m + 1 : Nat) s ((i + 1 : Nat) : Int) else some (false, s, (i : Int))) (hex_no hx) (Ev.congr (fun k => if_neg (by simp)) (Ev.now _))), Nat.le_refl _, hi, fun ho => by cases ho⟩
      simp only [spec_reader_escape.l0]
      rw [if_pos (by omega), here_end (by omega)]
      simp only [Option.bind_some]
      rw [wrap_one i (by omega), wrap_one m (by omega)]
theorem escape_shape (k : Nat) (s : ByteArray) (i : Nat) (c : Int) (h : spec_reader_here.f s i = some (c, s, (i : Int))) :
    spec_reader_escape.f k s i = if IsShort c then spec_reader_escape.j0 k c true s i else spec_reader_escape.j0 k c false s i := by
  unfold spec_reader_escape.f
  rw [h]
  simp only [Option.bind_some]
  unfold IsShort
  by_cases h1 : c = 34
  · simp [h1]
  · by_cases h2 : c = 92
    · simp [h2]
    · by_cases h3 : c = 47
      · simp [h3]
      · by_cases h4 : c = 98
        · simp [h4]
        · by_cases h5 : c = 102
          · simp [h5]
          · by_cases h6 : c = 110
            · simp [h6]
            · by_cases h7 : c = 114
              · simp [h7]
              · by_cases h8 : c = 116
                · simp [h8]
                · have h9 : (c == 116) = false := beq_eq_false_iff_ne.2 h8
                  simp [h1, h2, h3, h4, h5, h6, h7, h8, h9]
/-- What stands behind a backslash. -/
theorem escape_runs (s : ByteArray) (hs : s.size ≤ 2147483647) (i : Nat) (hi : i ≤ s.size) : ∃ ok j, Ev (fun k => spec_reader_escape.f k s i) (ok, s, (j : Nat)) ∧ i ≤ j ∧ j ≤ s.size ∧
    (ok = true → (i < s.size ∧ IsShort (bt s i) ∧ j = i + 1) ∨ (bt s i = 117 ∧ i < s.size ∧ j = i + 5 ∧ IsHex (bt s (i + 1 : Nat)) ∧ IsHex (bt s (i + 2 : Nat)) ∧ IsHex (bt s (i + 3 : Nat)) ∧ IsHex (bt s (i + 4 : Nat)))) := by
  by_cases hlt : i < s.size
  · have hsh := fun k => escape_shape k s i _ (here_in hlt)
    by_cases h8 : IsShort (bt s i)
    · refine ⟨true, i + 1, Ev.congr hsh ?_, by omega, by omega, fun _ => .inl ⟨hlt, h8, rfl⟩⟩
      refine Ev.congr (fun k => if_pos h8) ?_
      refine Ev.step (f := fun _ => some (true, s, ((i + 1 : Nat) : Int))) (fun k => ?_) (Ev.now _)
      simp only [spec_reader_escape.j0]
      rw [if_pos trivial, wrap_one i (by omega)]
    · by_cases hu : bt s i = 117
      · obtain ⟨ok, j, e, h1, h2, h3⟩ := four_runs s hs 4 0 (i + 1) rfl (by omega) (by omega)
        refine ⟨ok, j, Ev.congr hsh ?_, by omega, h2, fun ho => ?_⟩
        · refine Ev.congr (fun k => if_neg h8) ?_
          refine Ev.step (fun k => ?_) e
          simp only [spec_reader_escape.j0]
          rw [if_neg (by simp), if_pos hu, wrap_one i (by omega)]
          rfl
        · obtain ⟨h4, h5⟩ := h3 ho
          exact .inr ⟨hu, hlt, by omega, h5 0 (by omega), h5 1 (by omega), h5 2 (by omega), h5 3 (by omega)⟩
      · refine ⟨false, i, Ev.congr hsh ?_, Nat.le_refl _, hi, fun ho => by cases ho⟩
        refine Ev.congr (fun k => if_neg h8) ?_
        refine Ev.step (f := fun _ => some (false, s, (i : Int))) (fun k => ?_) (Ev.now _)
        simp only [spec_reader_escape.j0]
        rw [if_neg (by simp), if_neg hu]
  · have hsh := fun k => escape_shape k s i _ (here_end (s := s) (i := i) (by omega))
    refine ⟨false, i, Ev.congr hsh ?_, Nat.le_refl _, hi, fun ho => by cases ho⟩
    refine Ev.congr (fun k => if_neg (by decide)) ?_
    refine Ev.step (f := fun _ => some (false, s, (i : Int))) (fun k => ?_) (Ev.now _)
    simp only [spec_reader_escape.j0]
    rw [if_neg (by simp), if_neg (by decide)]
/-- A string's inside. -/
theorem quoted_l0 (s : ByteArray) (hs : s.size ≤ 2147483647) : ∀ d i, s.size - i < d → i ≤ s.size → ∃ ok j, Ev (fun k => spec_reader_quoted.l0 k s (i : Nat)) (ok, s, (j : Nat)) ∧ i ≤ j ∧ j ≤ s.size ∧ (ok = true → Chars s i j) := by
  intro d
  induction d with
  | zero => intro i hd hi; omega
  | succ d ih =>
    intro i hd hi
    by_cases hlt : i < s.size
    · have hI : (i : Int) < (s.size : Int) := by omega
      by_cases h1 : bt s i = 34
      · refine ⟨true, i + 1, Ev.step (f := fun _ => some (true, s, ((i + 1 : Nat) : Int))) (fun k => ?_) (Ev.now _), by omega, by omega, fun _ => .close hlt h1⟩
        simp only [spec_reader_quoted.l0]
        rw [if_pos hI, if_pos (by omega), if_pos h1, wrap_one i (by omega)]
      · by_cases h2 : bt s i < 32
        · refine ⟨false, i + 1, Ev.step (f := fun _ => some (false, s, ((i + 1 : Nat) : Int))) (fun k => ?_) (Ev.now _), by omega, by omega, fun ho => by cases ho⟩
          simp only [spec_reader_quoted.l0]
          rw [if_pos hI, if_pos (by omega), if_neg h1, if_pos h2, wrap_one i (by omega)]
        · by_cases h3 : bt s i = 92
          · obtain ⟨ok, j, e, h4, h5, h6⟩ := escape_runs s hs (i + 1) (by omega)
            cases ok with
            | false =>
              refine ⟨false, j, Ev.step (fun k => ?_) (Ev.bind (f := fun k b => if b.1 = true then spec_reader_quoted.l0 k b.2.1 b.2.2 else some (false, b.2.1, b.2.2)) e (Ev.congr (fun k => if_neg (by simp)) (Ev.now _))), by omega, h5, fun ho => by cases ho⟩
              simp only [spec_reader_quoted.l0]
              rw [if_pos hI, if_pos (by omega), if_neg h1, if_neg h2, if_pos h3, wrap_one i (by omega)]
            | true =>
              have hj := h6 rfl
              obtain ⟨ok, j2, e2, h7, h8, h9⟩ := ih j (by omega) h5
              refine ⟨ok, j2, Ev.step (fun k => ?_) (Ev.bind (f := fun k b => if b.1 = true then spec_reader_quoted.l0 k b.2.1 b.2.2 else some (false, b.2.1, b.2.2)) e (Ev.congr (fun k => if_pos rfl) e2)), by omega, h8, fun ho => ?_⟩
              · simp only [spec_reader_quoted.l0]
                rw [if_pos hI, if_pos (by omega), if_neg h1, if_neg h2, if_pos h3, wrap_one i (by omega)]
              · rcases hj with ⟨g1, g2, rfl⟩ | ⟨g1, g2, rfl, g3, g4, g5, g6⟩
                · exact .esc (by omega) h3 g2 (h9 ho)
                · exact .uni (by omega) h3 g1 g3 g4 g5 g6 (h9 ho)
          · obtain ⟨ok, j, e, h4, h5, h6⟩ := ih (i + 1) (by omega) (by omega)
            refine ⟨ok, j, Ev.step (fun k => ?_) e, by omega, h5, fun ho => .plain hlt h1 h3 (by omega) (h6 ho)⟩
            simp only [spec_reader_quoted.l0]
            rw [if_pos hI, if_pos (by omega), if_neg h1, if_neg h2, if_neg h3, wrap_one i (by omega)]
    · refine ⟨false, i, Ev.step (f := fun _ => some (false, s, (i : Int))) (fun k => ?_) (Ev.now _), Nat.le_refl _, hi, fun ho => by cases ho⟩
      simp only [spec_reader_quoted.l0]
      rw [if_neg (by omega)]
theorem quoted_runs (s : ByteArray) (hs : s.size ≤ 2147483647) (i : Nat) (hi : i < s.size) : ∃ ok j, Ev (fun k => spec_reader_quoted.f k s (i : Nat)) (ok, s, (j : Nat)) ∧ i < j ∧ j ≤ s.size ∧ (ok = true → Chars s (i + 1) j) := by
  obtain ⟨ok, j, e, h1, h2, h3⟩ := quoted_l0 s hs _ (i + 1) (Nat.lt_succ_self _) (by omega)
  refine ⟨ok, j, Ev.congr (fun k => ?_) e, by omega, h2, h3⟩
  unfold spec_reader_quoted.f
  rw [wrap_one i (by omega)]
end Go.Proofs.YtookccnmgoocpaaGreatDoor.PTwo
