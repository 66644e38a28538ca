/- What the reference's Unquote, Paired and UTF8 answer: they return; and what Unquote makes of a string. Plain Lean: no memory and no Go. -/
import Derived.Test.YtookccnmgoocpaaGreatDoorUgGramB
import Derived.Test.YtookccnmgoocpaaGreatDoorUgPTwox16
namespace Go.Proofs.YtookccnmgoocpaaGreatDoor.PTwo
open Go.RowKit Go.Proofs.YtookccnmgoocpaaGreatDoorW.PrintWords Go.Proofs.YtookccnmgoocpaaGreatDoorW.PrintLast Go.Proofs.YtookccnmgoocpaaGreatDoorW.PrintMore
set_option linter.unusedVariables false
/-- Four hexadecimal digits as a number. -/
def hex4 (s : ByteArray) (i : Nat) : Int := ((hexVal (bt s i) * 16 + hexVal (bt s (i + 1 : Nat))) * 16 + hexVal (bt s (i + 2 : Nat))) * 16 + hexVal (bt s (i + 3 : Nat))
theorem hexVal_range {c : Int} (h : IsHex c) : 0 ≤ hexVal c ∧ hexVal c ≤ 15 := by
  unfold IsHex at h
  unfold hexVal
  split
  · omega
  · split <;> omega
/-- An escape \uXXXX stands at a place. -/
def IsUnit (s : ByteArray) (i : Nat) : Prop := i + 6 ≤ s.size ∧ bt s i = 92 ∧ bt s (i + 1 : Nat) = 117 ∧ IsHex (bt s (i + 2 : Nat)) ∧ IsHex (bt s (i + 3 : Nat)) ∧ IsHex (bt s (i + 4 : Nat)) ∧ IsHex (bt s (i + 5 : Nat))
instance (s : ByteArray) (i : Nat) : Decidable (IsUnit s i) := by unfold IsUnit; exact inferInstance
theorem hex4_range {s : ByteArray} {i : Nat} (h : IsUnit s i) : 0 ≤ hex4 s (i + 2) ∧ hex4 s (i + 2) ≤ 65535 := by
  obtain ⟨_, _, _, h1, h2, h3, h4⟩ := h
  have a1 := hexVal_range h1
  have a2 := hexVal_range h2
  have a3 := hexVal_range h3
  have a4 := hexVal_range h4
  unfold hex4
  rw [show i + 2 + 1 = i + 3 from rfl, show i + 2 + 2 = i + 4 from rfl, show i + 2 + 3 = i + 5 from rfl]
  omega
theorem unit_l0 (s : ByteArray) (hs : s.size ≤ 2147483647) (a : Nat) (ha : a + 6 ≤ s.size) : ∀ d m (x : Int), d ≤ 4 → m + d = a + 6 → 0 ≤ x → x < 16 ^ (4 - d) → (∀ q, m ≤ q → q < a + 6 → IsHex (bt s (q : Nat))) →
    ∃ r, Ev (fun k => spec_unit.l0 k s (a : Nat) x (m : Nat)) (r, true) ∧ r = (List.range d).foldl (fun y q => y * 16 + hexVal (bt s (m + q : Nat))) x := by
  intro d
  induction d with
  | zero =>
    intro m x hd hm h0 h1 hx
    refine ⟨x, Ev.step (f := fun _ => some (x, true)) (fun k => ?_) (Ev.now _), rfl⟩
    simp only [spec_unit.l0]
    rw [show wrap64 ((a : Int) + 6) = ((a + 6 : Nat) : Int) from by unfold wrap64; omega, if_neg (by omega)]
  | succ d ih =>
    intro m x hd hm h0 h1 hx
    have hh := hx m (Nat.le_refl _) (by omega)
    have hr := hexVal_range hh
    have hp : (16 : Int) ^ (4 - (d + 1)) ≤ 4096 := by
      obtain h | h | h | h : 4 - (d + 1) = 0 ∨ 4 - (d + 1) = 1 ∨ 4 - (d + 1) = 2 ∨ 4 - (d + 1) = 3 := by omega
      all_goals (rw [h]; decide)
    have hp2 : (16 : Int) ^ (4 - d) = 16 ^ (4 - (d + 1)) * 16 := by rw [show 4 - d = (4 - (d + 1)) + 1 from by omega, Int.pow_succ]
    obtain ⟨r, e, hr2⟩ := ih (m + 1) (x * 16 + hexVal (bt s m)) (by omega) (by omega) (by omega) (by rw [hp2]; omega) (fun q h2 h3 => hx q (by omega) h3)
    refine ⟨r, Ev.step (fun k => ?_) (Ev.bind (f := fun k b => if b.2 = true then spec_unit.l0 k s (a : Nat) (wrap64 (wrap64 (x * 16) + b.1)) ((m + 1 : Nat) : Int) else some (0, false)) (hex_yes hh) (Ev.congr (fun k => if_pos rfl) (Ev.congr (fun k => ?_) e))), ?_⟩
    · simp only [spec_unit.l0]
      rw [show wrap64 ((a : Int) + 6) = ((a + 6 : Nat) : Int) from by unfold wrap64; omega, if_pos (by omega), if_pos (by omega), if_pos (by omega), wrap_one m (by omega)]
    · show spec_unit.l0 k s (a : Nat) (wrap64 (wrap64 (x * 16) + hexVal (bt s m))) ((m + 1 : Nat) : Int) = _
      rw [show wrap64 (wrap64 (x * 16) + hexVal (bt s m)) = x * 16 + hexVal (bt s m) from by unfold wrap64; omega]
    · rw [hr2, List.range_succ_eq_map, List.foldl_cons, List.foldl_map]
      simp only [Nat.add_zero]
      congr 1
      funext y q
      rw [show m + 1 + q = m + (q + 1) from by omega]
theorem unit_l0_no (s : ByteArray) (hs : s.size ≤ 2147483647) (a : Nat) (ha : a + 6 ≤ s.size) : ∀ d m (x : Int), m + d = a + 6 → (∃ q, m ≤ q ∧ q < a + 6 ∧ ¬ IsHex (bt s (q : Nat))) →
    Ev (fun k => spec_unit.l0 k s (a : Nat) x (m : Nat)) (0, false) := by
  intro d
  induction d with
  | zero => intro m x hm ⟨q, h1, h2, _⟩; omega
  | succ d ih =>
    intro m x hm ⟨q, h1, h2, h3⟩
    by_cases hh : IsHex (bt s m)
    · have hq : m ≠ q := fun e => h3 (e ▸ hh)
      have e := ih (m + 1) (wrap64 (wrap64 (x * 16) + hexVal (bt s m))) (by omega) ⟨q, by omega, h2, h3⟩
      refine Ev.step (fun k => ?_) (Ev.bind (f := fun k b => if b.2 = true then spec_unit.l0 k s (a : Nat) (wrap64 (wrap64 (x * 16) + b.1)) ((m + 1 : Nat) : Int) else some (0, false)) (hex_yes hh) (Ev.congr (fun k => if_pos rfl) e))
      simp only [spec_unit.l0]
      rw [show wrap64 ((a : Int) + 6) = ((a + 6 : Nat) : Int) from by unfold wrap64; omega, if_pos (by omega), if_pos (by omega), if_pos (by omega), wrap_one m (by omega)]
    · refine Ev.step (fun k => ?_) (Ev.bind (f := fun k b => if b.2 = true then spec_unit.l0 k s (a : Nat) (wrap64 (wrap64 (x * 16) + b.1)) ((m + 1 : Nat) : Int) else some (0, false)) (hex_no hh) (Ev.congr (fun k => if_neg (by simp)) (Ev.now _)))
      simp only [spec_unit.l0]
      rw [show wrap64 ((a : Int) + 6) = ((a + 6 : Nat) : Int) from by unfold wrap64; omega, if_pos (by omega), if_pos (by omega), if_pos (by omega), wrap_one m (by omega)]
theorem unit_none (s : ByteArray) (a : Nat) : Ev (fun k => spec_unit.j0 k s (a : Nat) true) (0, false) :=
  Ev.step (f := fun _ => some (0, false)) (fun k => by simp only [spec_unit.j0]; rw [if_pos trivial]) (Ev.now _)
theorem unit_yes (s : ByteArray) (hs : s.size ≤ 2147483647) (a : Nat) (h : IsUnit s a) : Ev (fun k => spec_unit.f k s (a : Nat)) (hex4 s (a + 2), true) := by
  obtain ⟨h0, h1, h2, h3, h4, h5, h6⟩ := h
  obtain ⟨r, e, hr⟩ := unit_l0 s hs a h0 4 (a + 2) 0 (by omega) (by omega) (by omega) (by decide) (fun q g1 g2 => by
    obtain h | h | h | h : q = a + 2 ∨ q = a + 3 ∨ q = a + 4 ∨ q = a + 5 := by omega
    all_goals (subst h; assumption))
  have hr2 : r = hex4 s (a + 2) := by
    rw [hr]
    simp [List.range_succ, hex4]
  subst hr2
  refine Ev.congr (fun k => ?_) (Ev.step (g := fun k => spec_unit.j0 k s (a : Nat) false) (fun k => ?_) e)
  · unfold spec_unit.f
    rw [show wrap64 ((s.size : Int) - (a : Int)) = (s.size : Int) - a from by unfold wrap64; omega, if_neg (by omega), if_pos (by omega), if_pos (by omega), if_pos h1, wrap_one a (by omega), if_pos (by omega), if_pos (by omega), h2]
    rfl
  · simp only [spec_unit.j0]
    rw [if_neg (by simp), show wrap64 ((a : Int) + 2) = ((a + 2 : Nat) : Int) from by unfold wrap64; omega]
theorem unit_no (s : ByteArray) (hs : s.size ≤ 2147483647) (a : Nat) (ha : a ≤ s.size + 100) (h : ¬ IsUnit s a) : Ev (fun k => spec_unit.f k s (a : Nat)) (0, false) := by
  have e1 : wrap64 ((s.size : Int) - (a : Int)) = (s.size : Int) - a := by unfold wrap64; omega
  by_cases h0 : a + 6 ≤ s.size
  · by_cases h1 : bt s a = 92
    · by_cases h2 : bt s (a + 1 : Nat) = 117
      · have hex : ∃ q, a + 2 ≤ q ∧ q < a + 6 ∧ ¬ IsHex (bt s (q : Nat)) := by
          by_cases g1 : IsHex (bt s (a + 2 : Nat))
          · by_cases g2 : IsHex (bt s (a + 3 : Nat))
            · by_cases g3 : IsHex (bt s (a + 4 : Nat))
              · by_cases g4 : IsHex (bt s (a + 5 : Nat))
                · exact absurd ⟨h0, h1, h2, g1, g2, g3, g4⟩ h
                · exact ⟨a + 5, by omega, by omega, g4⟩
              · exact ⟨a + 4, by omega, by omega, g3⟩
            · exact ⟨a + 3, by omega, by omega, g2⟩
          · exact ⟨a + 2, by omega, by omega, g1⟩
        refine Ev.congr (fun k => ?_) (Ev.step (g := fun k => spec_unit.j0 k s (a : Nat) false) (fun k => ?_) (unit_l0_no s hs a h0 4 (a + 2) 0 (by omega) hex))
        · unfold spec_unit.f
          rw [e1, if_neg (by omega), if_pos (by omega), if_pos (by omega), if_pos h1, wrap_one a (by omega), if_pos (by omega), if_pos (by omega), h2]
          rfl
        · simp only [spec_unit.j0]
          rw [if_neg (by simp), show wrap64 ((a : Int) + 2) = ((a + 2 : Nat) : Int) from by unfold wrap64; omega]
      · refine Ev.congr (fun k => ?_) (unit_none s a)
        unfold spec_unit.f
        rw [e1, if_neg (by omega), if_pos (by omega), if_pos (by omega), if_pos h1, wrap_one a (by omega), if_pos (by omega), if_pos (by omega), show (bt s ((a + 1 : Nat) : Int) != 117) = true from bne_iff_ne.2 h2]
    · refine Ev.congr (fun k => ?_) (unit_none s a)
      unfold spec_unit.f
      rw [e1, if_neg (by omega), if_pos (by omega), if_pos (by omega), if_neg h1]
  · refine Ev.congr (fun k => ?_) (unit_none s a)
    unfold spec_unit.f
    rw [e1, if_pos (by omega)]
def IsHigh (n : Int) : Prop := 55296 ≤ n ∧ n ≤ 56319
def IsLow (n : Int) : Prop := 56320 ≤ n ∧ n ≤ 57343
instance (c : Int) : Decidable (IsHigh c) := by unfold IsHigh; exact inferInstance
instance (c : Int) : Decidable (IsLow c) := by unfold IsLow; exact inferInstance
theorem high_eq (n : Int) : spec_high.f n = some (decide (IsHigh n)) := by
  unfold spec_high.f IsHigh
  by_cases h : 55296 ≤ n
  · rw [if_pos h]; simp [h]
  · rw [if_neg h]; simp [h]
theorem low_eq (n : Int) : spec_low.f n = some (decide (IsLow n)) := by
  unfold spec_low.f IsLow
  by_cases h : 56320 ≤ n
  · rw [if_pos h]; simp [h]
  · rw [if_neg h]; simp [h]
/-- A character's bytes in UTF-8, as the reference writes them. -/
def U8 (c : Int) : List Int :=
  if c < 128 then [c % 256] else if c < 2048 then [(wrap64 (192 + (wrap64 (Int.tdiv c 64)))) % 256, (wrap64 (128 + (Int.tmod c 64))) % 256] else if IsHigh c ∨ IsLow c then [239, 191, 189] else
    if c < 65536 then [(wrap64 (224 + (wrap64 (Int.tdiv c 4096)))) % 256, (wrap64 (128 + (Int.tmod (wrap64 (Int.tdiv c 64)) 64))) % 256, (wrap64 (128 + (Int.tmod c 64))) % 256] else
      [(wrap64 (240 + (wrap64 (Int.tdiv c 262144)))) % 256, (wrap64 (128 + (Int.tmod (wrap64 (Int.tdiv c 4096)) 64))) % 256, (wrap64 (128 + (Int.tmod (wrap64 (Int.tdiv c 64)) 64))) % 256, (wrap64 (128 + (Int.tmod c 64))) % 256]
theorem U8_length (c : Int) : (U8 c).length ≤ 4 := by
  unfold U8
  by_cases h1 : c < 128
  · rw [if_pos h1]; simp
  rw [if_neg h1]
  by_cases h2 : c < 2048
  · rw [if_pos h2]; simp
  rw [if_neg h2]
  by_cases h3 : IsHigh c ∨ IsLow c
  · rw [if_pos h3]; simp
  rw [if_neg h3]
  by_cases h4 : c < 65536
  · rw [if_pos h4]; simp
  · rw [if_neg h4]; simp
theorem appendUTF8_runs (l : List Int) (hl : l.length < 70368744177664) (c : Int) : Ev (fun k => spec_appendUTF8.f k l c) (l ++ U8 c) := by
  unfold U8
  by_cases h1 : c < 128
  · refine Ev.congr (fun k => ?_) (Ev.now _)
    unfold spec_appendUTF8.f
    rw [if_pos h1, if_pos (by omega), if_pos h1]
  · by_cases h2 : c < 2048
    · refine Ev.congr (fun k => ?_) (Ev.now _)
      unfold spec_appendUTF8.f
      rw [if_neg h1, if_pos h2, if_neg h1, if_pos h2]
      simp only [Option.bind_some]
      rw [if_pos (by simp; omega)]
    · rw [if_neg h1, if_neg h2]
      by_cases h3 : IsHigh c
      · rw [if_pos (.inl h3)]
        refine Ev.congr (fun k => ?_) (Ev.step (g := fun k => spec_appendUTF8.j0 k l c true) (f := fun _ => some (l ++ [239, 191, 189])) (fun k => ?_) (Ev.now _))
        · unfold spec_appendUTF8.f
          rw [if_neg h1, if_neg h2, high_eq, decide_eq_true h3]
          simp
        · simp only [spec_appendUTF8.j0]
          rw [if_pos trivial]
          simp only [Option.bind_some]
          rw [if_pos (by simp; omega)]
      · have e0 : ∀ k, spec_appendUTF8.f k l c = spec_appendUTF8.j0 k l c (decide (IsLow c)) := fun k => by
          unfold spec_appendUTF8.f
          rw [if_neg h1, if_neg h2, high_eq, decide_eq_false h3]
          simp [low_eq]
        refine Ev.congr e0 ?_
        by_cases h4 : IsLow c
        · rw [if_pos (.inr h4)]
          refine Ev.step (f := fun _ => some (l ++ [239, 191, 189])) (fun k => ?_) (Ev.now _)
          simp only [spec_appendUTF8.j0]
          rw [decide_eq_true h4, if_pos rfl]
          simp only [Option.bind_some]
          rw [if_pos (by simp; omega)]
        · rw [if_neg (by simp [h3, h4])]
          by_cases h5 : c < 65536
          · rw [if_pos h5]
            refine Ev.step (f := fun _ => some _) (fun k => ?_) (Ev.now _)
            simp only [spec_appendUTF8.j0]
            rw [decide_eq_false h4, if_neg (by simp), if_pos h5]
            simp only [Option.bind_some]
            rw [if_pos (by simp; omega)]
          · rw [if_neg h5]
            refine Ev.step (f := fun _ => some _) (fun k => ?_) (Ev.now _)
            simp only [spec_appendUTF8.j0]
            rw [decide_eq_false h4, if_neg (by simp), if_neg h5]
            simp only [Option.bind_some]
            rw [if_pos (by simp; omega)]
end Go.Proofs.YtookccnmgoocpaaGreatDoor.PTwo
