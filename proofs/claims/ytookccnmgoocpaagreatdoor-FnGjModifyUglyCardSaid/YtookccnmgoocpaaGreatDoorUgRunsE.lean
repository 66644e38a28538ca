/- What Unquote makes of a string, as a relation; and that Unquote, Paired and UTF8 return. Plain Lean: no memory and no Go. -/
import Derived.Test.YtookccnmgoocpaaGreatDoorUgRunsD
import Derived.Test.YtookccnmgoocpaaGreatDoorUgPTwox14
namespace Go.Proofs.YtookccnmgoocpaaGreatDoor.PTwo
open Go.RowKit Go.Proofs.YtookccnmgoocpaaGreatDoorW.PrintWords Go.Proofs.YtookccnmgoocpaaGreatDoorW.PrintLast Go.Proofs.YtookccnmgoocpaaGreatDoorW.PrintMore
set_option linter.unusedVariables false
/-- The inside of a string, cut out of its quotation marks, from a place to its end. -/
inductive Ins (b : ByteArray) : Nat → Prop
  | done : Ins b b.size
  | plain {i : Nat} (h : i < b.size) (h1 : bt b i ≠ 34) (h2 : bt b i ≠ 92) (h3 : 32 ≤ bt b i) (t : Ins b (i + 1)) : Ins b i
  | esc {i : Nat} (h : i + 1 < b.size) (h1 : bt b i = 92) (h2 : IsShort (bt b (i + 1 : Nat))) (t : Ins b (i + 2)) : Ins b i
  | uni {i : Nat} (h : IsUnit b i) (t : Ins b (i + 6)) : Ins b i
theorem Ins.le {b : ByteArray} {i : Nat} (h : Ins b i) : i ≤ b.size := by
  induction h with
  | done => exact Nat.le_refl _
  | plain h => omega
  | esc h => omega
  | uni h => obtain ⟨h, _⟩ := h; omega
theorem Chars.ins {s b : ByteArray} {off : Nat} (hb : ∀ m, m < b.size → bt b (m : Nat) = bt s (off + m : Nat)) {P J : Nat} (h : Chars s P J) : ∀ i, P = off + i → J = off + b.size + 1 → Ins b i := by
  induction h with
  | close h hq => intro i hi hj; obtain rfl : i = b.size := by omega
                  exact .done
  | plain h h1 h2 h3 t ih =>
    intro i hi hj
    have := t.lt
    subst hi
    have e := hb i (by omega)
    exact .plain (by omega) (by rw [e]; exact h1) (by rw [e]; exact h2) (by rw [e]; exact h3) (ih (i + 1) (by omega) hj)
  | esc h h1 h2 t ih =>
    intro i hi hj
    have := t.lt
    subst hi
    have e := hb i (by omega)
    have e1 := hb (i + 1) (by omega)
    exact .esc (by omega) (by rw [e]; exact h1) (by rw [e1]; exact h2) (ih (i + 2) (by omega) hj)
  | uni h h1 h2 h3 h4 h5 h6 t ih =>
    intro i hi hj
    have := t.lt
    subst hi
    refine .uni ⟨by omega, ?_, ?_, ?_, ?_, ?_, ?_⟩ (ih (i + 6) (by omega) hj)
    · rw [hb i (by omega)]; exact h1
    · rw [hb (i + 1) (by omega)]; exact h2
    · rw [hb (i + 2) (by omega)]; exact h3
    · rw [hb (i + 3) (by omega)]; exact h4
    · rw [hb (i + 4) (by omega)]; exact h5
    · rw [hb (i + 5) (by omega)]; exact h6
theorem Ins.after {b : ByteArray} {i : Nat} (h : Ins b i) (u : IsUnit b i) : Ins b (i + 6) := by
  obtain ⟨u0, u1, u2, _⟩ := u
  cases h with
  | done => omega
  | plain h h1 h2 => exact absurd u1 h2
  | esc h h1 h2 => rw [u2] at h2; revert h2; unfold IsShort; omega
  | uni h t => exact t
/-- The byte that a short escape stands for. -/
def shortVal (c : Int) : Int := if c = 98 then 8 else if c = 102 then 12 else if c = 110 then 10 else if c = 114 then 13 else if c = 116 then 9 else c
theorem short_eq (c : Int) : spec_short.f c = some (shortVal c) := by
  unfold spec_short.f shortVal
  repeat' (first | rfl | (split))
/-- The character of two halves. -/
def pairVal (x y : Int) : Int := 65536 + (x - 55296) * 1024 + (y - 56320)
/-- What a string's inside stands for, from a place to its end. -/
inductive Unq (b : ByteArray) : Nat → List Int → Prop
  | done : Unq b b.size []
  | plain {i : Nat} {o : List Int} (h : i < b.size) (h1 : bt b i ≠ 34) (h2 : bt b i ≠ 92) (h3 : 32 ≤ bt b i) (t : Unq b (i + 1) o) : Unq b i (bt b i :: o)
  | esc {i : Nat} {o : List Int} (h : i + 1 < b.size) (h1 : bt b i = 92) (h2 : IsShort (bt b (i + 1 : Nat))) (t : Unq b (i + 2) o) : Unq b i (shortVal (bt b (i + 1 : Nat)) :: o)
  | one {i : Nat} {o : List Int} (h : IsUnit b i) (hn : ¬ (IsHigh (hex4 b (i + 2)) ∧ IsUnit b (i + 6) ∧ IsLow (hex4 b (i + 8)))) (t : Unq b (i + 6) o) : Unq b i (U8 (hex4 b (i + 2)) ++ o)
  | two {i : Nat} {o : List Int} (h : IsUnit b i) (h1 : IsHigh (hex4 b (i + 2))) (h2 : IsUnit b (i + 6)) (h3 : IsLow (hex4 b (i + 8))) (t : Unq b (i + 12) o) : Unq b i (U8 (pairVal (hex4 b (i + 2)) (hex4 b (i + 8))) ++ o)
theorem unq_runs (b : ByteArray) (hs : b.size ≤ 2147483647) : ∀ d i, b.size - i < d → Ins b i → ∀ x : List Int, x.length ≤ i → ∃ o, Unq b i o ∧ o.length + i ≤ b.size ∧ Ev (fun k => spec_Unquote.l0 k x b (i : Nat)) (strOfNums (x ++ o)) := by
  intro d
  induction d with
  | zero => intro i hd; omega
  | succ d ih =>
    intro i hd hi x hx
    have hle := hi.le
    cases hi with
    | done =>
      refine ⟨[], .done, by simp, ?_⟩
      rw [List.append_nil]
      refine Ev.step (f := fun _ => some (strOfNums x)) (fun k => ?_) (Ev.now _)
      simp only [spec_Unquote.l0]
      rw [if_neg (by omega)]
    | plain h h1 h2 h3 t =>
      obtain ⟨o, u, l, e⟩ := ih (i + 1) (by omega) t (x ++ [bt b i]) (by simp; omega)
      refine ⟨bt b i :: o, .plain h h1 h2 h3 u, by simp; omega, ?_⟩
      rw [show x ++ bt b i :: o = (x ++ [bt b i]) ++ o from by simp]
      refine Ev.step (fun k => ?_) e
      simp only [spec_Unquote.l0]
      rw [if_pos (by omega), if_pos (by omega), if_neg h2, if_pos (by omega), wrap_one i (by omega)]
    | esc h h1 h2 t =>
      obtain ⟨o, u, l, e⟩ := ih (i + 2) (by omega) t (x ++ [shortVal (bt b (i + 1 : Nat))]) (by simp; omega)
      refine ⟨_ :: o, .esc h h1 h2 u, by simp; omega, ?_⟩
      rw [show ∀ c : Int, x ++ c :: o = (x ++ [c]) ++ o from by simp]
      have hu : ¬ IsUnit b i := fun ⟨_, _, u2, _⟩ => by rw [u2] at h2; revert h2; unfold IsShort; omega
      apply Ev.step
      · intro k
        simp only [spec_Unquote.l0]
        rw [if_pos (by omega), if_pos (by omega), if_pos h1]
      refine Ev.bind (unit_no b hs i (by omega) hu) (Ev.congr (fun k => if_neg (by simp)) (Ev.congr (fun k => ?_) e))
      · rw [wrap_one i (by omega), if_pos (by omega), if_pos (by omega), short_eq]
        simp only [Option.bind_some]
        rw [if_pos (by omega), show wrap64 ((i : Int) + 2) = ((i + 2 : Nat) : Int) from by unfold wrap64; omega]
    | uni h t =>
      have hr := hex4_range h
      have hsz := h.1
      have h1 := h.2.1
      have e6 : wrap64 ((i : Int) + 6) = ((i + 6 : Nat) : Int) := by unfold wrap64; omega
      have hone : ¬ (IsHigh (hex4 b (i + 2)) ∧ IsUnit b (i + 6) ∧ IsLow (hex4 b (i + 8))) →
          ∃ o, Unq b i o ∧ o.length + i ≤ b.size ∧ Ev (fun k => (spec_appendUTF8.f k x (hex4 b (i + 2))).bind fun t => spec_Unquote.l0 k t b ((i + 6 : Nat) : Int)) (strOfNums (x ++ o)) := by
        intro hn
        have hl := U8_length (hex4 b (i + 2))
        obtain ⟨o, u, l, e⟩ := ih (i + 6) (by omega) t (x ++ U8 (hex4 b (i + 2))) (by simp; omega)
        refine ⟨_, .one h hn u, by simp; omega, ?_⟩
        rw [← List.append_assoc]
        exact Ev.bind (appendUTF8_runs x (by omega) _) e
      by_cases hn : IsHigh (hex4 b (i + 2)) ∧ IsUnit b (i + 6) ∧ IsLow (hex4 b (i + 8))
      · obtain ⟨n1, n2, n3⟩ := hn
        have hsz2 := n2.1
        have hl := U8_length (pairVal (hex4 b (i + 2)) (hex4 b (i + 8)))
        obtain ⟨o, u, l, e⟩ := ih (i + 12) (by omega) (t.after n2) (x ++ U8 (pairVal (hex4 b (i + 2)) (hex4 b (i + 8)))) (by simp; omega)
        refine ⟨_, .two h n1 n2 n3 u, by simp; omega, ?_⟩
        rw [← List.append_assoc]
        apply Ev.step
        · intro k
          simp only [spec_Unquote.l0]
          rw [if_pos (by omega), if_pos (by omega), if_pos h1]
        refine Ev.bind (unit_yes b hs i h) (Ev.congr (fun k => if_pos rfl) ?_)
        refine Ev.bind (Ev.congr (fun k => ?_) (unit_yes b hs (i + 6) n2)) (Ev.congr (fun k => if_pos rfl) ?_)
        · rw [e6]
        refine Ev.congr (fun k => ?_) (Ev.bind (f := fun k t => spec_Unquote.l0 k t b ((i + 12 : Nat) : Int)) (appendUTF8_runs x (by omega) (pairVal (hex4 b (i + 2)) (hex4 b (i + 8)))) e)
        · rw [high_eq, decide_eq_true n1]
          simp only [Option.bind_some, if_true]
          rw [low_eq, decide_eq_true n3]
          simp only [Option.bind_some, if_true]
          rw [e6, show wrap64 (((i + 6 : Nat) : Int) + 6) = ((i + 12 : Nat) : Int) from by unfold wrap64; omega]
          congr 1
          congr 1
          unfold IsHigh at n1
          unfold IsLow at n3
          unfold pairVal
          rw [show i + 6 + 2 = i + 8 from rfl]
          unfold wrap64
          omega
      · obtain ⟨o, u, l, e⟩ := hone hn
        refine ⟨o, u, l, ?_⟩
        apply Ev.step
        · intro k
          simp only [spec_Unquote.l0]
          rw [if_pos (by omega), if_pos (by omega), if_pos h1]
        refine Ev.bind (unit_yes b hs i h) (Ev.congr (fun k => if_pos rfl) ?_)
        by_cases n2 : IsUnit b (i + 6)
        · refine Ev.bind (Ev.congr (fun k => ?_) (unit_yes b hs (i + 6) n2)) (Ev.congr (fun k => if_pos rfl) ?_)
          · rw [e6]
          by_cases n1 : IsHigh (hex4 b (i + 2))
          · have n3 : ¬ IsLow (hex4 b (i + 8)) := fun n3 => hn ⟨n1, n2, n3⟩
            refine Ev.congr (fun k => ?_) e
            rw [high_eq, decide_eq_true n1]
            simp only [Option.bind_some, if_true]
            rw [low_eq, show i + 6 + 2 = i + 8 from rfl, decide_eq_false n3]
            simp only [Option.bind_some]
            rw [if_neg (by simp), e6]
          · refine Ev.congr (fun k => ?_) e
            rw [high_eq, decide_eq_false n1]
            simp only [Option.bind_some]
            rw [if_neg (by simp), e6]
        · refine Ev.bind (Ev.congr (fun k => ?_) (unit_no b hs (i + 6) (by omega) n2)) (Ev.congr (fun k => if_neg (by simp)) ?_)
          · rw [e6]
          refine Ev.congr (fun k => ?_) e
          rw [e6]
/-- Paired returns. -/
theorem paired_step (s : ByteArray) (hs : s.size ≤ 2147483647) (i : Nat) (hlt : i < s.size) (h1 : bt s i = 92) (k : Nat) : spec_Paired.l0 (k + 1) s (i : Nat) = (spec_unit.f k s (i : Nat)).bind fun b => if b.2 = true then (if IsHigh b.1 then (spec_unit.f k s ((i + 6 : Nat) : Int)).bind fun c => if c.2 = true then (if IsLow c.1 then spec_Paired.l0 k s ((i + 12 : Nat) : Int) else some false) else some false else if IsLow b.1 then some false else spec_Paired.l0 k s ((i + 6 : Nat) : Int)) else spec_Paired.l0 k s ((i + 2 : Nat) : Int) := by
  have g2 : wrap64 ((i : Int) + 2) = ((i + 2 : Nat) : Int) := by unfold wrap64; omega
  have g6 : wrap64 ((i : Int) + 6) = ((i + 6 : Nat) : Int) := by unfold wrap64; omega
  have g12 : wrap64 ((i : Int) + 12) = ((i + 12 : Nat) : Int) := by unfold wrap64; omega
  simp only [spec_Paired.l0, high_eq, low_eq, Option.bind_some, decide_eq_true_eq]
  rw [if_pos (by omega), if_pos (by omega), if_pos h1, g2, g6, g12]
theorem paired_l0 (s : ByteArray) (hs : s.size ≤ 2147483647) : ∀ d i, s.size + 12 - i < d → i ≤ s.size + 12 → ∃ r, Ev (fun k => spec_Paired.l0 k s (i : Nat)) r := by
  intro d
  induction d with
  | zero => intro i hd; omega
  | succ d ih =>
    intro i hd hi
    by_cases hlt : i < s.size
    · obtain ⟨r1, e1⟩ := ih (i + 1) (by omega) (by omega)
      obtain ⟨r2, e2⟩ := ih (i + 2) (by omega) (by omega)
      obtain ⟨r3, e3⟩ := ih (i + 6) (by omega) (by omega)
      obtain ⟨r4, e4⟩ := ih (i + 12) (by omega) (by omega)
      by_cases h1 : bt s i = 92
      · have hst := paired_step s hs i hlt h1
        by_cases u : IsUnit s i
        · by_cases n1 : IsHigh (hex4 s (i + 2))
          · by_cases u2 : IsUnit s (i + 6)
            · by_cases n3 : IsLow (hex4 s (i + 6 + 2))
              · exact ⟨r4, Ev.step hst (Ev.bind (unit_yes s hs i u) (Ev.congr (fun k => (if_pos rfl).trans (if_pos n1)) (Ev.bind (unit_yes s hs (i + 6) u2) (Ev.congr (fun k => (if_pos rfl).trans (if_pos n3)) e4))))⟩
              · exact ⟨false, Ev.step hst (Ev.bind (unit_yes s hs i u) (Ev.congr (fun k => (if_pos rfl).trans (if_pos n1)) (Ev.bind (unit_yes s hs (i + 6) u2) (Ev.congr (fun k => (if_pos rfl).trans (if_neg n3)) (Ev.now _)))))⟩
            · exact ⟨false, Ev.step hst (Ev.bind (unit_yes s hs i u) (Ev.congr (fun k => (if_pos rfl).trans (if_pos n1)) (Ev.bind (unit_no s hs (i + 6) (by omega) u2) (Ev.congr (fun k => if_neg (by decide)) (Ev.now _)))))⟩
          · by_cases n3 : IsLow (hex4 s (i + 2))
            · exact ⟨false, Ev.step hst (Ev.bind (unit_yes s hs i u) (Ev.congr (fun k => (if_pos rfl).trans ((if_neg n1).trans (if_pos n3))) (Ev.now _)))⟩
            · exact ⟨r3, Ev.step hst (Ev.bind (unit_yes s hs i u) (Ev.congr (fun k => (if_pos rfl).trans ((if_neg n1).trans (if_neg n3))) e3))⟩
        · exact ⟨r2, Ev.step hst (Ev.bind (unit_no s hs i (by omega) u) (Ev.congr (fun k => if_neg (by decide)) e2))⟩
      · refine ⟨r1, Ev.step (fun k => ?_) e1⟩
        simp only [spec_Paired.l0]
        rw [if_pos (by omega), if_pos (by omega), if_neg h1, wrap_one i (by omega)]
    · refine ⟨true, Ev.step (f := fun _ => some true) (fun k => ?_) (Ev.now _)⟩
      simp only [spec_Paired.l0]
      rw [if_neg (by omega)]
theorem paired_runs (s : ByteArray) (hs : s.size ≤ 2147483647) : ∃ r, Ev (fun k => spec_Paired.f k s) r := paired_l0 s hs _ 0 (Nat.lt_succ_self _) (by omega)
/-- The bytes behind a character's first one. -/
theorem character_l0 (s : ByteArray) (hs : s.size ≤ 2147483647) (at_ n : Nat) (hn : n ≤ 3) (ha : at_ + n < s.size) (lo : Int) : ∀ d m (c : Int), d + m = n + 1 → ∃ r : Int × Int × Bool, Ev (fun k => spec_Character.l0 k s (at_ : Nat) c (n : Nat) lo (m : Nat)) r ∧ (r.2.1 = 1 ∨ r.2.1 = (n + 1 : Nat)) := by
  intro d
  induction d with
  | zero =>
    intro m c hd
    have e : ∀ k, spec_Character.l0 (k + 1) s (at_ : Nat) c (n : Nat) lo (m : Nat) = (if c < lo then (some (65533, 1, false)) else (if c > 1114111 then (some (65533, 1, false)) else (if IsHigh c then (some (65533, 1, false)) else if IsLow c then (some (65533, 1, false)) else (some (c, ((n + 1 : Nat) : Int), true))))) := fun k => by
      simp only [spec_Character.l0]
      rw [if_neg (by omega), high_eq, low_eq, wrap_one n (by omega)]
      simp only [Option.bind_some, decide_eq_true_eq]
    by_cases h1 : c < lo
    · exact ⟨_, Ev.step (f := fun _ => some (65533, 1, false)) (fun k => by rw [e, if_pos h1]) (Ev.now _), .inl rfl⟩
    · by_cases h2 : c > 1114111
      · exact ⟨_, Ev.step (f := fun _ => some (65533, 1, false)) (fun k => by rw [e, if_neg h1, if_pos h2]) (Ev.now _), .inl rfl⟩
      · by_cases h3 : IsHigh c
        · exact ⟨_, Ev.step (f := fun _ => some (65533, 1, false)) (fun k => by rw [e, if_neg h1, if_neg h2, if_pos h3]) (Ev.now _), .inl rfl⟩
        · by_cases h4 : IsLow c
          · exact ⟨_, Ev.step (f := fun _ => some (65533, 1, false)) (fun k => by rw [e, if_neg h1, if_neg h2, if_neg h3, if_pos h4]) (Ev.now _), .inl rfl⟩
          · exact ⟨_, Ev.step (f := fun _ => some (c, ((n + 1 : Nat) : Int), true)) (fun k => by rw [e, if_neg h1, if_neg h2, if_neg h3, if_neg h4]) (Ev.now _), .inr rfl⟩
  | succ d ih =>
    intro m c hd
    have e : ∀ k, spec_Character.l0 (k + 1) s (at_ : Nat) c (n : Nat) lo (m : Nat) = (if (wrap64 (bt s (at_ + m : Nat))) < 128 then (some (65533, 1, false)) else (if (wrap64 (bt s (at_ + m : Nat))) > 191 then (some (65533, 1, false)) else (spec_Character.l0 k s (at_ : Nat) (wrap64 ((wrap64 ((wrap64 (c * 64)) + (wrap64 (bt s (at_ + m : Nat))))) - 128)) (n : Nat) lo ((m + 1 : Nat) : Int)))) := fun k => by
      simp only [spec_Character.l0]
      rw [if_pos (by omega), wrap_succ at_ m (by omega), if_pos (by omega), if_pos (by omega), wrap_one m (by omega)]
    by_cases h1 : (wrap64 (bt s (at_ + m : Nat))) < 128
    · exact ⟨_, Ev.step (f := fun _ => some (65533, 1, false)) (fun k => by rw [e, if_pos h1]) (Ev.now _), .inl rfl⟩
    · by_cases h2 : (wrap64 (bt s (at_ + m : Nat))) > 191
      · exact ⟨_, Ev.step (f := fun _ => some (65533, 1, false)) (fun k => by rw [e, if_neg h1, if_pos h2]) (Ev.now _), .inl rfl⟩
      · obtain ⟨r, er, hr⟩ := ih (m + 1) (wrap64 ((wrap64 ((wrap64 (c * 64)) + (wrap64 (bt s (at_ + m : Nat))))) - 128)) (by omega)
        exact ⟨r, Ev.step (fun k => by rw [e, if_neg h1, if_neg h2]) er, hr⟩
theorem character_j2 (s : ByteArray) (hs : s.size ≤ 2147483647) (i n : Nat) (hn : n ≤ 3) (hi : i < s.size) (c lo : Int) : ∃ r : Int × Int × Bool, Ev (fun k => spec_Character.j2 k s (i : Nat) c (n : Nat) lo) r ∧ 1 ≤ r.2.1 ∧ r.2.1 ≤ 4 := by
  by_cases h : (wrap64 ((s.size : Int) - (i : Int))) ≤ (n : Int)
  · exact ⟨_, Ev.step (f := fun _ => some (65533, 1, false)) (fun k => by simp only [spec_Character.j2]; rw [if_pos h]) (Ev.now _), by decide, by decide⟩
  · have h2 : i + n < s.size := by unfold wrap64 at h; omega
    obtain ⟨r, er, hr⟩ := character_l0 s hs i n hn h2 lo n 1 c (by omega)
    exact ⟨r, Ev.step (fun k => by simp only [spec_Character.j2]; rw [if_neg h]; rfl) er, by omega, by omega⟩
theorem character_runs (s : ByteArray) (hs : s.size ≤ 2147483647) (i : Nat) (hi : i < s.size) : ∃ r : Int × Int × Bool, Ev (fun k => spec_Character.f k s (i : Nat)) r ∧ 1 ≤ r.2.1 ∧ r.2.1 ≤ 4 := by
  by_cases h1 : (wrap64 (bt s i)) < 128
  · refine ⟨_, Ev.congr (fun k => ?_) (Ev.now (wrap64 (bt s i), 1, true)), Int.le_refl 1, (by decide : (1 : Int) ≤ 4)⟩
    unfold spec_Character.f
    rw [if_pos (by omega), if_pos (by omega), if_pos h1]
  · obtain ⟨r2, e2, g2⟩ := character_j2 s hs i 1 (by omega) hi (wrap64 ((wrap64 (bt s i)) - 192)) 128
    obtain ⟨r3, e3, g3⟩ := character_j2 s hs i 2 (by omega) hi (wrap64 ((wrap64 (bt s i)) - 224)) 2048
    obtain ⟨r4, e4, g4⟩ := character_j2 s hs i 3 (by omega) hi (wrap64 ((wrap64 (bt s i)) - 240)) 65536
    have hj1 : ∀ x : Bool, ∃ r : Int × Int × Bool, Ev (fun k => spec_Character.j1 k s (i : Nat) (wrap64 (bt s i)) x) r ∧ 1 ≤ r.2.1 ∧ r.2.1 ≤ 4 := fun x => by
      cases x with
      | true => exact ⟨r3, Ev.step (fun k => by simp only [spec_Character.j1]; rw [if_pos trivial]; rfl) e3, g3⟩
      | false =>
        by_cases a : 240 ≤ (wrap64 (bt s i))
        · by_cases b : (wrap64 (bt s i)) ≤ 244
          · exact ⟨r4, Ev.step (fun k => by simp only [spec_Character.j1]; rw [if_neg (by simp), if_pos a, if_pos b]; rfl) e4, g4⟩
          · exact ⟨_, Ev.step (f := fun _ => some (65533, 1, false)) (fun k => by simp only [spec_Character.j1]; rw [if_neg (by simp), if_pos a, if_neg b]) (Ev.now _), by decide, by decide⟩
        · exact ⟨_, Ev.step (f := fun _ => some (65533, 1, false)) (fun k => by simp only [spec_Character.j1]; rw [if_neg (by simp), if_neg a]) (Ev.now _), by decide, by decide⟩
    have hj0 : ∀ x : Bool, ∃ r : Int × Int × Bool, Ev (fun k => spec_Character.j0 k s (i : Nat) (wrap64 (bt s i)) x) r ∧ 1 ≤ r.2.1 ∧ r.2.1 ≤ 4 := fun x => by
      cases x with
      | true => exact ⟨r2, Ev.step (fun k => by simp only [spec_Character.j0]; rw [if_pos trivial]; rfl) e2, g2⟩
      | false =>
        by_cases a : 224 ≤ (wrap64 (bt s i))
        · obtain ⟨r, e, g⟩ := hj1 (decide ((wrap64 (bt s i)) ≤ 239))
          exact ⟨r, Ev.step (fun k => by simp only [spec_Character.j0]; rw [if_neg (by simp), if_pos a]) e, g⟩
        · obtain ⟨r, e, g⟩ := hj1 false
          exact ⟨r, Ev.step (fun k => by simp only [spec_Character.j0]; rw [if_neg (by simp), if_neg a]) e, g⟩
    by_cases a : 194 ≤ (wrap64 (bt s i))
    · obtain ⟨r, e, g⟩ := hj0 (decide ((wrap64 (bt s i)) ≤ 223))
      refine ⟨r, Ev.congr (fun k => ?_) e, g⟩
      unfold spec_Character.f
      rw [if_pos (by omega), if_pos (by omega), if_neg h1, if_pos a]
    · obtain ⟨r, e, g⟩ := hj0 false
      refine ⟨r, Ev.congr (fun k => ?_) e, g⟩
      unfold spec_Character.f
      rw [if_pos (by omega), if_pos (by omega), if_neg h1, if_neg a]
theorem utf8_l0 (s : ByteArray) (hs : s.size ≤ 2147483647) : ∀ d i, s.size + 4 - i < d → i ≤ s.size + 4 → ∃ r, Ev (fun k => spec_UTF8.l0 k s (i : Nat)) r := by
  intro d
  induction d with
  | zero => intro i hd; omega
  | succ d ih =>
    intro i hd hi
    by_cases hlt : i < s.size
    · obtain ⟨⟨c, n, ok⟩, e, g1, g2⟩ := character_runs s hs i hlt
      dsimp only at g1 g2
      have hst : ∀ k, spec_UTF8.l0 (k + 1) s (i : Nat) = (spec_Character.f k s (i : Nat)).bind fun b => if b.2.2 = true then spec_UTF8.l0 k s (wrap64 ((i : Int) + b.2.1)) else some false := fun k => by
        simp only [spec_UTF8.l0]
        rw [if_pos (by omega)]
      cases ok with
      | false =>
        exact ⟨false, Ev.step hst (Ev.bind e (Ev.congr (fun k => if_neg (by simp)) (Ev.now _)))⟩
      | true =>
        obtain ⟨n, rfl⟩ : ∃ m : Nat, n = m := ⟨n.toNat, by omega⟩
        obtain ⟨r, er⟩ := ih (i + n) (by omega) (by omega)
        refine ⟨r, Ev.step hst (Ev.bind e (Ev.congr (fun k => if_pos rfl) (Ev.congr (fun k => ?_) er)))⟩
        · show spec_UTF8.l0 k s (wrap64 ((i : Int) + (n : Int))) = _
          rw [wrap_succ i n (by omega)]
    · refine ⟨true, Ev.step (f := fun _ => some true) (fun k => ?_) (Ev.now _)⟩
      simp only [spec_UTF8.l0]
      rw [if_neg (by omega)]
theorem utf8_runs (s : ByteArray) (hs : s.size ≤ 2147483647) : ∃ r, Ev (fun k => spec_UTF8.f k s) r := utf8_l0 s hs _ 0 (Nat.lt_succ_self _) (by omega)
end Go.Proofs.YtookccnmgoocpaaGreatDoor.PTwo
