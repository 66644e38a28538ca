/- What the readers of the reference answer, in the words of the grammar: numbers, words. Plain Lean: no memory and no Go. -/
import Derived.Test.YtookccnmgoocpaaGreatDoorUgRuns
namespace Go.Proofs.YtookccnmgoocpaaGreatDoor.PTwo
open Go.RowKit Go.Proofs.YtookccnmgoocpaaGreatDoorW.PrintWords Go.Proofs.YtookccnmgoocpaaGreatDoorW.PrintLast Go.Proofs.YtookccnmgoocpaaGreatDoorW.PrintMore
set_option linter.unusedVariables false
/-- The byte at a place, 0 at the end. -/
def hv (s : ByteArray) (i : Nat) : Int := if i < s.size then bt s i else 0
theorem here_hv (s : ByteArray) (i : Nat) : spec_reader_here.f s i = some (hv s i, s, (i : Int)) := by
  unfold hv
  split
  · exact here_in ‹_›
  · exact here_end (by omega)
theorem digits_l0 (s : ByteArray) (hs : s.size ≤ 2147483647) (b : Int) : ∀ d i, s.size - i = d → i ≤ s.size → ∃ j : Nat, Ev (fun k => spec_reader_digits.l0 k b (hv s i) s (i : Nat)) (decide ((j : Int) > b), s, (j : Nat)) ∧ i ≤ j ∧ j ≤ s.size ∧ Digs s i j ∧ (j < s.size → ¬ IsDigit (bt s j)) := by
  intro d
  induction d with
  | zero =>
    intro i hd hi
    have h0 : hv s i = 0 := by unfold hv; rw [if_neg (by omega)]
    refine ⟨i, Ev.step (f := fun _ => some (decide ((i : Int) > b), s, (i : Int))) (fun k => ?_) (Ev.now _), Nat.le_refl _, hi, .nil i, fun h => by omega⟩
    simp only [spec_reader_digits.l0]
    rw [h0, if_neg (by decide)]
  | succ d ih =>
    intro i hd hi
    have h0 : hv s i = bt s i := by unfold hv; rw [if_pos (by omega)]
    by_cases hx : IsDigit (bt s i)
    · obtain ⟨j, e, h1, h2, h3, h4⟩ := ih (i + 1) (by omega) (by omega)
      refine ⟨j, Ev.step (fun k => ?_) e, by omega, h2, .cons (by omega) hx h3, h4⟩
      simp only [spec_reader_digits.l0]
      rw [h0, if_pos hx.1, if_pos hx.2, wrap_one i (by omega), here_hv]
      rfl
    · refine ⟨i, Ev.step (f := fun _ => some (decide ((i : Int) > b), s, (i : Int))) (fun k => ?_) (Ev.now _), Nat.le_refl _, hi, .nil i, fun _ => hx⟩
      simp only [spec_reader_digits.l0]
      rw [h0]
      unfold IsDigit at hx
      by_cases h1 : 48 ≤ bt s i
      · rw [if_pos h1, if_neg (by omega)]
      · rw [if_neg h1]
theorem digits_runs (s : ByteArray) (hs : s.size ≤ 2147483647) (i : Nat) (hi : i ≤ s.size) : ∃ j : Nat, Ev (fun k => spec_reader_digits.f k s (i : Nat)) (decide (j > i), s, (j : Nat)) ∧ i ≤ j ∧ j ≤ s.size ∧ Digs s i j ∧ (j < s.size → ¬ IsDigit (bt s j)) := by
  obtain ⟨j, e, h1, h2, h3, h4⟩ := digits_l0 s hs (i : Int) _ i rfl hi
  refine ⟨j, Ev.congr (fun k => ?_) (by rw [show decide (j > i) = decide ((j : Int) > (i : Int)) from by simp]; exact e), h1, h2, h3, h4⟩
  unfold spec_reader_digits.f
  rw [here_hv]
  rfl
/-- A byte is taken, or it isn't there. -/
theorem take_cases (s : ByteArray) (hs : s.size ≤ 2147483647) (i : Nat) (c : Int) : (i < s.size ∧ bt s i = c ∧ spec_reader_take.f s i c = some (true, s, ((i + 1 : Nat) : Int))) ∨ ((i < s.size → bt s i ≠ c) ∧ spec_reader_take.f s i c = some (false, s, (i : Int))) := by
  by_cases h : i < s.size ∧ bt s i = c
  · exact .inl ⟨h.1, h.2, take_yes hs h.1 h.2⟩
  · have h' : i < s.size → bt s i ≠ c := fun h1 h2 => h ⟨h1, h2⟩
    exact .inr ⟨h', take_no h'⟩
theorem exp_runs (s : ByteArray) (hs : s.size ≤ 2147483647) (c : Nat) (hc : c < s.size) (he : bt s c = 101 ∨ bt s c = 69) : ∃ ok j, Ev (fun k => spec_reader_number.j2 k true s ((c + 1 : Nat) : Int)) (ok, s, (j : Nat)) ∧ c ≤ j ∧ j ≤ s.size ∧
    (ok = true → ∃ d, (d = c + 1 ∨ (c + 1 < s.size ∧ (bt s (c + 1 : Nat) = 43 ∨ bt s (c + 1 : Nat) = 45) ∧ d = c + 2)) ∧ d < j ∧ Digs s d j) := by
  rcases take_cases s hs (c + 1) 43 with ⟨h1, h2, h3⟩ | ⟨h2, h3⟩
  · obtain ⟨j, e, g1, g2, g3, g4⟩ := digits_runs s hs (c + 2) (by omega)
    refine ⟨_, j, Ev.step (fun k => ?_) (Ev.bind (f := fun k b => some (b.1, b.2.1, b.2.2)) e (Ev.now _)), by omega, g2, fun ho => ⟨c + 2, .inr ⟨h1, .inl h2, rfl⟩, by simpa using ho, g3⟩⟩
    simp only [spec_reader_number.j2]
    rw [if_pos trivial, h3]
    rfl
  · rcases take_cases s hs (c + 1) 45 with ⟨h4, h5, h6⟩ | ⟨h5, h6⟩
    · obtain ⟨j, e, g1, g2, g3, g4⟩ := digits_runs s hs (c + 2) (by omega)
      refine ⟨_, j, Ev.step (fun k => ?_) (Ev.bind (f := fun k b => some (b.1, b.2.1, b.2.2)) e (Ev.now _)), by omega, g2, fun ho => ⟨c + 2, .inr ⟨h4, .inr h5, rfl⟩, by simpa using ho, g3⟩⟩
      simp only [spec_reader_number.j2]
      rw [if_pos trivial, h3]
      simp only [Option.bind_some]
      rw [if_neg (by simp), h6]
      rfl
    · obtain ⟨j, e, g1, g2, g3, g4⟩ := digits_runs s hs (c + 1) (by omega)
      refine ⟨_, j, Ev.step (fun k => ?_) (Ev.bind (f := fun k b => some (b.1, b.2.1, b.2.2)) e (Ev.now _)), by omega, g2, fun ho => ⟨c + 1, .inl rfl, by simpa using ho, g3⟩⟩
      simp only [spec_reader_number.j2]
      rw [if_pos trivial, h3]
      simp only [Option.bind_some]
      rw [if_neg (by simp), h6]
      rfl
theorem tail_runs (s : ByteArray) (hs : s.size ≤ 2147483647) (c : Nat) (hc : c ≤ s.size) : ∃ ok j, Ev (fun k => spec_reader_number.j1 k false s (c : Nat)) (ok, s, (j : Nat)) ∧ c ≤ j ∧ j ≤ s.size ∧
    (ok = true → (j = c ∨ (c < s.size ∧ (bt s c = 101 ∨ bt s c = 69) ∧ ∃ d, (d = c + 1 ∨ (c + 1 < s.size ∧ (bt s (c + 1 : Nat) = 43 ∨ bt s (c + 1 : Nat) = 45) ∧ d = c + 2)) ∧ d < j ∧ Digs s d j))) := by
  rcases take_cases s hs c 101 with ⟨h1, h2, h3⟩ | ⟨h2, h3⟩
  · obtain ⟨ok, j, e, g1, g2, g3⟩ := exp_runs s hs c h1 (.inl h2)
    refine ⟨ok, j, Ev.step (fun k => ?_) e, g1, g2, fun ho => .inr ⟨h1, .inl h2, g3 ho⟩⟩
    simp only [spec_reader_number.j1]
    rw [if_neg (by simp), h3]
    rfl
  · rcases take_cases s hs c 69 with ⟨h4, h5, h6⟩ | ⟨h5, h6⟩
    · obtain ⟨ok, j, e, g1, g2, g3⟩ := exp_runs s hs c h4 (.inr h5)
      refine ⟨ok, j, Ev.step (fun k => ?_) e, g1, g2, fun ho => .inr ⟨h4, .inr h5, g3 ho⟩⟩
      simp only [spec_reader_number.j1]
      rw [if_neg (by simp), h3]
      simp only [Option.bind_some]
      rw [if_neg (by simp), h6]
      rfl
    · refine ⟨true, c, Ev.step (fun k => ?_) (Ev.step (g := fun k => spec_reader_number.j2 k false s (c : Int)) (f := fun _ => some (true, s, (c : Int))) (fun k => ?_) (Ev.now _)), Nat.le_refl _, hc, fun _ => .inl rfl⟩
      · simp only [spec_reader_number.j1]
        rw [if_neg (by simp), h3]
        simp only [Option.bind_some]
        rw [if_neg (by simp), h6]
        rfl
      · simp only [spec_reader_number.j2]
        rw [if_neg (by simp)]
theorem tail_none (s : ByteArray) (c : Nat) : Ev (fun k => spec_reader_number.j1 k true s (c : Nat)) (false, s, (c : Int)) :=
  Ev.step (f := fun _ => some (false, s, (c : Int))) (fun k => by simp only [spec_reader_number.j1]; rw [if_pos trivial]) (Ev.now _)
theorem frac_runs (s : ByteArray) (hs : s.size ≤ 2147483647) (b : Nat) (hb : b ≤ s.size) : ∃ ok j, Ev (fun k => spec_reader_number.j0 k false s (b : Nat)) (ok, s, (j : Nat)) ∧ b ≤ j ∧ j ≤ s.size ∧
    (ok = true → ∃ c, (c = b ∨ (b < s.size ∧ bt s b = 46 ∧ b + 1 < c ∧ Digs s (b + 1) c)) ∧
      (j = c ∨ (c < s.size ∧ (bt s c = 101 ∨ bt s c = 69) ∧ ∃ d, (d = c + 1 ∨ (c + 1 < s.size ∧ (bt s (c + 1 : Nat) = 43 ∨ bt s (c + 1 : Nat) = 45) ∧ d = c + 2)) ∧ d < j ∧ Digs s d j))) := by
  rcases take_cases s hs b 46 with ⟨h1, h2, h3⟩ | ⟨h2, h3⟩
  · obtain ⟨c, e, g1, g2, g3, g4⟩ := digits_runs s hs (b + 1) (by omega)
    by_cases hz : c > b + 1
    · obtain ⟨ok, j, e2, f1, f2, f3⟩ := tail_runs s hs c g2
      refine ⟨ok, j, Ev.step (fun k => ?_) (Ev.bind (f := fun k x => spec_reader_number.j1 k (!x.1) x.2.1 x.2.2) e (by rw [decide_eq_true hz]; exact e2)), by omega, f2, fun ho => ⟨c, .inr ⟨h1, h2, hz, g3⟩, f3 ho⟩⟩
      simp only [spec_reader_number.j0]
      rw [if_neg (by simp), h3]
      rfl
    · refine ⟨false, c, Ev.step (fun k => ?_) (Ev.bind (f := fun k x => spec_reader_number.j1 k (!x.1) x.2.1 x.2.2) e (by rw [decide_eq_false hz]; exact tail_none s c)), by omega, g2, fun ho => by cases ho⟩
      simp only [spec_reader_number.j0]
      rw [if_neg (by simp), h3]
      rfl
  · obtain ⟨ok, j, e2, f1, f2, f3⟩ := tail_runs s hs b hb
    refine ⟨ok, j, Ev.step (fun k => ?_) e2, f1, f2, fun ho => ⟨b, .inl rfl, f3 ho⟩⟩
    simp only [spec_reader_number.j0]
    rw [if_neg (by simp), h3]
    rfl
theorem frac_none (s : ByteArray) (c : Nat) : Ev (fun k => spec_reader_number.j0 k true s (c : Nat)) (false, s, (c : Int)) :=
  Ev.step (f := fun _ => some (false, s, (c : Int))) (fun k => by simp only [spec_reader_number.j0]; rw [if_pos trivial]) (Ev.now _)
theorem int_runs (s : ByteArray) (hs : s.size ≤ 2147483647) (a : Nat) (ha : a ≤ s.size) : ∃ ok j, Ev (fun k => (spec_reader_take.f s a 48).bind fun b => if b.1 = true then spec_reader_number.j0 k false b.2.1 b.2.2 else (spec_reader_digits.f k b.2.1 b.2.2).bind fun d => spec_reader_number.j0 k (!d.1) d.2.1 d.2.2) (ok, s, (j : Nat)) ∧ a ≤ j ∧ j ≤ s.size ∧
    (ok = true → ∃ b c, ((a < s.size ∧ bt s a = 48 ∧ b = a + 1) ∨ (a < b ∧ Digs s a b)) ∧ (c = b ∨ (b < s.size ∧ bt s b = 46 ∧ b + 1 < c ∧ Digs s (b + 1) c)) ∧
      (j = c ∨ (c < s.size ∧ (bt s c = 101 ∨ bt s c = 69) ∧ ∃ d, (d = c + 1 ∨ (c + 1 < s.size ∧ (bt s (c + 1 : Nat) = 43 ∨ bt s (c + 1 : Nat) = 45) ∧ d = c + 2)) ∧ d < j ∧ Digs s d j))) := by
  rcases take_cases s hs a 48 with ⟨h1, h2, h3⟩ | ⟨h2, h3⟩
  · obtain ⟨ok, j, e, g1, g2, g3⟩ := frac_runs s hs (a + 1) (by omega)
    refine ⟨ok, j, Ev.congr (fun k => ?_) e, by omega, g2, fun ho => ?_⟩
    · rw [h3]; rfl
    · obtain ⟨c, f1, f2⟩ := g3 ho
      exact ⟨a + 1, c, .inl ⟨h1, h2, rfl⟩, f1, f2⟩
  · obtain ⟨b, e, g1, g2, g3, g4⟩ := digits_runs s hs a ha
    by_cases hz : b > a
    · obtain ⟨ok, j, e2, f1, f2, f3⟩ := frac_runs s hs b g2
      refine ⟨ok, j, Ev.congr (fun k => ?_) (Ev.bind (f := fun k x => spec_reader_number.j0 k (!x.1) x.2.1 x.2.2) e (by rw [decide_eq_true hz]; exact e2)), by omega, f2, fun ho => ?_⟩
      · rw [h3]; rfl
      · obtain ⟨c, f4, f5⟩ := f3 ho
        exact ⟨b, c, .inr ⟨hz, g3⟩, f4, f5⟩
    · refine ⟨false, b, Ev.congr (fun k => ?_) (Ev.bind (f := fun k x => spec_reader_number.j0 k (!x.1) x.2.1 x.2.2) e (by rw [decide_eq_false hz]; exact frac_none s b)), by omega, g2, fun ho => by cases ho⟩
      rw [h3]; rfl
/-- A number. -/
theorem number_runs (s : ByteArray) (hs : s.size ≤ 2147483647) (i : Nat) (hi : i ≤ s.size) : ∃ ok j, Ev (fun k => spec_reader_number.f k s (i : Nat)) (ok, s, (j : Nat)) ∧ i ≤ j ∧ j ≤ s.size ∧ (ok = true → Num s i j) := by
  rcases take_cases s hs i 45 with ⟨h1, h2, h3⟩ | ⟨h2, h3⟩
  · obtain ⟨ok, j, e, g1, g2, g3⟩ := int_runs s hs (i + 1) (by omega)
    refine ⟨ok, j, Ev.congr (fun k => ?_) e, by omega, g2, fun ho => ?_⟩
    · unfold spec_reader_number.f; rw [h3]; rfl
    · obtain ⟨b, c, f1, f2, f3⟩ := g3 ho
      exact ⟨⟨i + 1, b, c, ⟨.inr ⟨h1, h2, rfl⟩, f1⟩, f2, f3⟩⟩
  · obtain ⟨ok, j, e, g1, g2, g3⟩ := int_runs s hs i hi
    refine ⟨ok, j, Ev.congr (fun k => ?_) e, by omega, g2, fun ho => ?_⟩
    · unfold spec_reader_number.f; rw [h3]; rfl
    · obtain ⟨b, c, f1, f2, f3⟩ := g3 ho
      exact ⟨⟨i, b, c, ⟨.inl rfl, f1⟩, f2, f3⟩⟩
theorem bt_extract (s : ByteArray) (a b m : Nat) (h : a + m < b) (hb : b ≤ s.size) : bt (s.extract a b) m = bt s (a + m : Nat) := by
  have hsz : (s.extract a b).size = b - a := by rw [ByteArray.size_extract]; omega
  unfold bt
  have h1 : (m : Int).toNat < (s.extract a b).size := by rw [hsz]; omega
  have h2 : ((a + m : Nat) : Int).toNat < s.size := by omega
  rw [dif_pos h1, dif_pos h2]
  congr 1
  simp only [Int.toNat_natCast]
  rw [ByteArray.getElem_extract]
theorem word_cases (s : ByteArray) (hs : s.size ≤ 2147483647) (i : Nat) (hi : i ≤ s.size) (w : ByteArray) (hw : w.size ≤ 1000) :
    (spec_reader_word.f s i w = some (true, s, ((i + w.size : Nat) : Int)) ∧ i + w.size ≤ s.size ∧ ∀ m, m < w.size → bt s (i + m : Nat) = bt w m) ∨ spec_reader_word.f s i w = some (false, s, (i : Int)) := by
  unfold spec_reader_word.f
  have e1 : wrap64 ((s.size : Int) - (i : Int)) = (s.size : Int) - i := by unfold wrap64; omega
  rw [e1]
  by_cases h : (s.size : Int) - i < (w.size : Int)
  · rw [if_pos h]
    exact .inr rfl
  · rw [if_neg h, if_pos (by omega), wrap_succ i w.size (by omega), if_pos (by omega), if_pos (by omega)]
    simp only [Int.toNat_natCast]
    by_cases he : (s.extract i (i + w.size)).toList = w.toList
    · rw [if_pos he]
      have hx : s.extract i (i + w.size) = w := by
        apply Go.WideShapes.bytes_inj
        rw [← ByteArray.toList_eq, ← ByteArray.toList_eq]
        exact he
      refine .inl ⟨rfl, by omega, fun m hm => ?_⟩
      rw [← bt_extract s i (i + w.size) m (by omega) (by omega), hx]
    · rw [if_neg he]
      exact .inr rfl
end Go.Proofs.YtookccnmgoocpaaGreatDoor.PTwo
