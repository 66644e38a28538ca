/- What the reader of a value answers: at every place of every text it returns, and what it says yes to is a value of the grammar, with its tree of places. Plain Lean: no memory and no Go. -/
import Derived.Test.YtookccnmgoocpaaGreatDoorUgRunsB
import Derived.Test.YtookccnmgoocpaaGreatDoorUgPlaces
namespace Go.Proofs.YtookccnmgoocpaaGreatDoor.PTwo
open Go.RowKit Go.Proofs.YtookccnmgoocpaaGreatDoorW.PrintWords Go.Proofs.YtookccnmgoocpaaGreatDoorW.PrintLast Go.Proofs.YtookccnmgoocpaaGreatDoorW.PrintMore
set_option linter.unusedVariables false
/-- With enough levels and enough rounds it answers r. -/
def Ev2 {α : Type} (G : Nat → Nat → Option α) (r : α) : Prop := ∃ N, ∀ n k, N ≤ n → N ≤ k → G n k = some r
theorem Ev2.of {α : Type} {g : Nat → Option α} {r : α} (h : Ev g r) : Ev2 (fun _ k => g k) r := let ⟨K, hK⟩ := h; ⟨K, fun _ k _ hk => hK k hk⟩
theorem Ev2.now {α : Type} (r : α) : Ev2 (fun _ _ => some r) r := ⟨0, fun _ _ _ _ => rfl⟩
theorem Ev2.congr {α : Type} {G F : Nat → Nat → Option α} {r : α} (h : ∀ n k, G n k = F n k) (k : Ev2 F r) : Ev2 G r := let ⟨K, hK⟩ := k; ⟨K, fun n k hn hk => (h n k).trans (hK n k hn hk)⟩
theorem Ev2.bind {α β : Type} {G : Nat → Nat → Option α} {F : Nat → Nat → α → Option β} {a : α} {r : β} (h : Ev2 G a) (k : Ev2 (fun n m => F n m a) r) : Ev2 (fun n m => (G n m).bind (F n m)) r := by
  obtain ⟨A, hA⟩ := h
  obtain ⟨B, hB⟩ := k
  refine ⟨max A B, fun n m hn hm => ?_⟩
  show (G n m).bind (F n m) = some r
  rw [hA n m (by omega) (by omega)]
  exact hB n m (by omega) (by omega)
theorem Ev2.step {α : Type} {G F : Nat → Nat → Option α} {r : α} (h : ∀ n k, G n (k + 1) = F n k) (k : Ev2 F r) : Ev2 G r := by
  obtain ⟨K, hK⟩ := k
  refine ⟨K + 1, fun n k hn hk => ?_⟩
  obtain ⟨k, rfl⟩ : ∃ m, k = m + 1 := ⟨k - 1, by omega⟩
  rw [h]
  exact hK n k (by omega) (by omega)
theorem Ev2.level {α : Type} {G F : Nat → Nat → Option α} {r : α} (h : ∀ n k, G (n + 1) k = F n k) (k : Ev2 F r) : Ev2 G r := by
  obtain ⟨K, hK⟩ := k
  refine ⟨K + 1, fun n k hn hk => ?_⟩
  obtain ⟨n, rfl⟩ : ∃ m, n = m + 1 := ⟨n - 1, by omega⟩
  rw [h]
  exact hK n k (by omega) (by omega)
/-- The reader of a value answers at a place. -/
def VRuns (s : ByteArray) (i : Nat) : Prop := ∃ (p : S40) (ok : Bool) (j : Nat), Ev2 (fun n k => (vAt n).f k s (i : Nat)) (p.f0, p.f1, p.f2, p.f3, p.f4, ok, s, (j : Nat)) ∧ i ≤ j ∧ j ≤ s.size ∧ (ok = true → Val s i j p ∧ i < j)
theorem Ev2.eq {α : Type} {x : Option α} {a : α} (h : x = some a) : Ev2 (fun _ _ => x) a := ⟨0, fun _ _ _ _ => h⟩
theorem elements_run (s : ByteArray) (hs : s.size ≤ 2147483647) : ∀ d i, s.size - i < d → i ≤ s.size → (∀ i', i ≤ i' → i' ≤ s.size → VRuns s i') → ∀ (xs : List S40), xs.length ≤ i →
    ∃ (ys : List S40) (ok : Bool) (j : Nat), Ev2 (fun n k => @spec_reader_elements.l0 (vAt n) k xs s (i : Nat)) (ys, ok, s, (j : Nat)) ∧ i ≤ j ∧ j ≤ s.size ∧ (ok = true → ∃ zs, ys = xs ++ zs ∧ Elems s i j zs ∧ i < j) := by
  intro d
  induction d with
  | zero => intro i hd; omega
  | succ d ih =>
    intro i hd hi hv xs hx
    obtain ⟨⟨p0, p1, p2, p3, p4⟩, ok, a, ev, h1, h2, h3⟩ := hv i (Nat.le_refl _) hi
    cases ok with
    | false =>
      refine ⟨[], false, a, ?_, h1, h2, fun ho => by cases ho⟩
      refine Ev2.step (fun n k => @spec_reader_elements.l0.eq_2 (vAt n) _ _ _ _) ?_
      refine Ev2.bind ev ?_
      exact Ev2.congr (fun n k => if_neg (by simp)) (Ev2.now _)
    | true =>
      obtain ⟨hval, hlt⟩ := h3 rfl
      obtain ⟨b, eb, w1, g1, g2, g3⟩ := blanks_runs s hs a h2
      have hlen : xs.length < 1954687338268 := by omega
      rcases take_cases s hs b 93 with ⟨f1, f2, f3⟩ | ⟨f2, f3⟩
      · refine ⟨xs ++ [(⟨p0, p1, p2, p3, p4⟩ : S40)], true, b + 1, ?_, by omega, by omega, fun _ => ⟨[(⟨p0, p1, p2, p3, p4⟩ : S40)], rfl, .last hval w1 f1 f2, by omega⟩⟩
        refine Ev2.step (fun n k => @spec_reader_elements.l0.eq_2 (vAt n) _ _ _ _) ?_
        refine Ev2.bind ev ?_
        refine Ev2.congr (fun n k => if_pos rfl) ?_
        refine Ev2.congr (fun n k => if_pos hlen) ?_
        refine Ev2.bind (Ev2.now _) ?_
        refine Ev2.bind (Ev2.of eb) ?_
        refine Ev2.bind (Ev2.eq f3) ?_
        exact Ev2.congr (fun n k => if_pos rfl) (Ev2.now _)
      · rcases take_cases s hs b 44 with ⟨c1, c2, c3⟩ | ⟨c2, c3⟩
        · obtain ⟨c, ec, w2, e1, e2, e3⟩ := blanks_runs s hs (b + 1) (by omega)
          obtain ⟨ys, ok, j, ev2, r1, r2, r3⟩ := ih c (by omega) e2 (fun i' hi' => hv i' (by omega)) (xs ++ [(⟨p0, p1, p2, p3, p4⟩ : S40)]) (by simp; omega)
          refine ⟨ys, ok, j, ?_, by omega, r2, fun ho => ?_⟩
          · refine Ev2.step (fun n k => @spec_reader_elements.l0.eq_2 (vAt n) _ _ _ _) ?_
            refine Ev2.bind ev ?_
            refine Ev2.congr (fun n k => if_pos rfl) ?_
            refine Ev2.congr (fun n k => if_pos hlen) ?_
            refine Ev2.bind (Ev2.now _) ?_
            refine Ev2.bind (Ev2.of eb) ?_
            refine Ev2.bind (Ev2.eq f3) ?_
            refine Ev2.congr (fun n k => if_neg (by simp)) ?_
            refine Ev2.bind (Ev2.eq c3) ?_
            refine Ev2.congr (fun n k => if_pos rfl) ?_
            refine Ev2.bind (Ev2.of ec) ?_
            exact ev2
          · obtain ⟨zs, rfl, hz, _⟩ := r3 ho
            exact ⟨(⟨p0, p1, p2, p3, p4⟩ : S40) :: zs, by simp, .cons hval w1 c1 c2 w2 hz, by omega⟩
        · refine ⟨[], false, b, ?_, by omega, g2, fun ho => by cases ho⟩
          refine Ev2.step (fun n k => @spec_reader_elements.l0.eq_2 (vAt n) _ _ _ _) ?_
          refine Ev2.bind ev ?_
          refine Ev2.congr (fun n k => if_pos rfl) ?_
          refine Ev2.congr (fun n k => if_pos hlen) ?_
          refine Ev2.bind (Ev2.now _) ?_
          refine Ev2.bind (Ev2.of eb) ?_
          refine Ev2.bind (Ev2.eq f3) ?_
          refine Ev2.congr (fun n k => if_neg (by simp)) ?_
          refine Ev2.bind (Ev2.eq c3) ?_
          exact Ev2.congr (fun n k => if_neg (by simp)) (Ev2.now _)
theorem members_run (s : ByteArray) (hs : s.size ≤ 2147483647) : ∀ d i, s.size - i < d → i ≤ s.size → (∀ i', i ≤ i' → i' ≤ s.size → VRuns s i') → ∀ (ns : List S84) (xs : List S40), ns.length ≤ i → xs.length ≤ i →
    ∃ (ms : List S84) (ys : List S40) (ok : Bool) (j : Nat), Ev2 (fun n k => @spec_reader_members.l0 (vAt n) k ns xs s (i : Nat)) (ms, ys, ok, s, (j : Nat)) ∧ i ≤ j ∧ j ≤ s.size ∧ (ok = true → ∃ ls zs, ms = ns ++ ls ∧ ys = xs ++ zs ∧ Mems s i j ls zs ∧ i < j) := by
  intro d
  induction d with
  | zero => intro i hd; omega
  | succ d ih =>
    intro i hd hi hvr ns xs hn hx
    have hfail : ∀ j : Nat, Ev2 (fun n k => @spec_reader_members.j1 (vAt n) k ns xs (i : Nat) true s (j : Nat)) ([], [], false, s, (j : Int)) := fun j => by
      refine Ev2.step (fun n k => @spec_reader_members.j1.eq_2 (vAt n) _ _ _ _ _ _ _) ?_
      exact Ev2.congr (fun n k => if_pos rfl) (Ev2.now _)
    have hlen : ns.length < 8796093022208 := by omega
    have hlen2 : xs.length < 1954687338268 := by omega
    by_cases hq : hv s i = 34
    · have hlt : i < s.size := by
        unfold hv at hq
        split at hq
        · assumption
        · cases hq
      have hq' : bt s i = 34 := by unfold hv at hq; rw [if_pos hlt] at hq; exact hq
      obtain ⟨ok, a, eq, a1, a2, a3⟩ := quoted_runs s hs i hlt
      -- up to the name's end
      have front : ∀ r, Ev2 (fun n k => @spec_reader_members.j1 (vAt n) k ns xs (i : Nat) (!ok) s (a : Nat)) r → Ev2 (fun n k => @spec_reader_members.l0 (vAt n) k ns xs s (i : Nat)) r := fun r h => by
        refine Ev2.step (fun n k => @spec_reader_members.l0.eq_2 (vAt n) _ _ _ _ _) ?_
        refine Ev2.bind (Ev2.eq (here_hv s i)) ?_
        refine Ev2.congr (fun n k => if_pos hq) ?_
        refine Ev2.bind (Ev2.of eq) ?_
        exact h
      cases ok with
      | false => exact ⟨[], [], false, a, front _ (hfail a), by omega, a2, fun ho => by cases ho⟩
      | true =>
        have hch := a3 rfl
        obtain ⟨b, eb, w1, g1, g2, g3⟩ := blanks_runs s hs a a2
        have mid : ∀ r, Ev2 (fun n k => (spec_reader_take.f s (b : Nat) 58).bind fun bt174 => (if bt174.1 = true then ((spec_reader_blanks.f k bt174.2.1 bt174.2.2).bind fun bt177 => ((@spec_reader_valueH.f (vAt n) k bt177.1 bt177.2).bind fun bt179 => (if bt179.2.2.2.2.2.1 = true then (if xs.length < 1954687338268 then ((some (xs ++ [(⟨bt179.1, bt179.2.1, bt179.2.2.1, bt179.2.2.2.1, bt179.2.2.2.2.1⟩ : S40)] : List (S40))).bind fun y192 => ((spec_reader_blanks.f k bt179.2.2.2.2.2.2.1 bt179.2.2.2.2.2.2.2).bind fun bt195 => ((spec_reader_take.f bt195.1 bt195.2 125).bind fun bt197 => (if bt197.1 = true then (some (ns ++ [(⟨(i : Int), (a : Int)⟩ : S84)], y192, true, bt197.2.1, bt197.2.2)) else ((spec_reader_take.f bt197.2.1 bt197.2.2 44).bind fun bt200 => (if bt200.1 = true then ((spec_reader_blanks.f k bt200.2.1 bt200.2.2).bind fun bt203 => (@spec_reader_members.l0 (vAt n) k (ns ++ [(⟨(i : Int), (a : Int)⟩ : S84)]) y192 bt203.1 bt203.2)) else (some (([] : List (S84)), ([] : List (S40)), false, bt200.2.1, bt200.2.2)))))))) else (none)) else (some (([] : List (S84)), ([] : List (S40)), false, bt179.2.2.2.2.2.2.1, bt179.2.2.2.2.2.2.2))))) else (some (([] : List (S84)), ([] : List (S40)), false, bt174.2.1, bt174.2.2)))) r → Ev2 (fun n k => @spec_reader_members.l0 (vAt n) k ns xs s (i : Nat)) r := fun r h => by
          refine front r ?_
          refine Ev2.step (fun n k => @spec_reader_members.j1.eq_2 (vAt n) _ _ _ _ _ _ _) ?_
          refine Ev2.congr (fun n k => if_neg (by simp)) ?_
          refine Ev2.congr (fun n k => if_pos hlen) ?_
          refine Ev2.bind (Ev2.now _) ?_
          refine Ev2.bind (Ev2.of eb) ?_
          exact h
        rcases take_cases s hs b 58 with ⟨b1, b2, b3⟩ | ⟨b2, b3⟩
        · obtain ⟨c, ec, w2, c1, c2, c3⟩ := blanks_runs s hs (b + 1) (by omega)
          obtain ⟨⟨p0, p1, p2, p3, p4⟩, ok, e, ev, d1, d2, d3⟩ := hvr c (by omega) c2
          cases ok with
          | false =>
            refine ⟨[], [], false, e, mid _ ?_, by omega, d2, fun ho => by cases ho⟩
            refine Ev2.bind (Ev2.eq b3) ?_
            refine Ev2.congr (fun n k => if_pos rfl) ?_
            refine Ev2.bind (Ev2.of ec) ?_
            refine Ev2.bind ev ?_
            exact Ev2.congr (fun n k => if_neg (by simp)) (Ev2.now _)
          | true =>
            obtain ⟨hval, hce⟩ := d3 rfl
            obtain ⟨x, ex, w3, x1, x2, x3⟩ := blanks_runs s hs e d2
            rcases take_cases s hs x 125 with ⟨y1, y2, y3⟩ | ⟨y2, y3⟩
            · refine ⟨ns ++ [⟨(i : Int), (a : Int)⟩], xs ++ [(⟨p0, p1, p2, p3, p4⟩ : S40)], true, x + 1, mid _ ?_, by omega, by omega, fun _ => ⟨_, _, rfl, rfl, .last hlt hq' hch w1 b1 b2 w2 hval w3 y1 y2, by omega⟩⟩
              refine Ev2.bind (Ev2.eq b3) ?_
              refine Ev2.congr (fun n k => if_pos rfl) ?_
              refine Ev2.bind (Ev2.of ec) ?_
              refine Ev2.bind ev ?_
              refine Ev2.congr (fun n k => if_pos rfl) ?_
              refine Ev2.congr (fun n k => if_pos hlen2) ?_
              refine Ev2.bind (Ev2.now _) ?_
              refine Ev2.bind (Ev2.of ex) ?_
              refine Ev2.bind (Ev2.eq y3) ?_
              exact Ev2.congr (fun n k => if_pos rfl) (Ev2.now _)
            · rcases take_cases s hs x 44 with ⟨z1, z2, z3⟩ | ⟨z2, z3⟩
              · obtain ⟨g, eg, w4, v1, v2, v3⟩ := blanks_runs s hs (x + 1) (by omega)
                obtain ⟨ms, ys, ok, j, ev2, r1, r2, r3⟩ := ih g (by omega) v2 (fun i' hi' => hvr i' (by omega)) (ns ++ [⟨(i : Int), (a : Int)⟩]) (xs ++ [(⟨p0, p1, p2, p3, p4⟩ : S40)]) (by simp; omega) (by simp; omega)
                refine ⟨ms, ys, ok, j, mid _ ?_, by omega, r2, fun ho => ?_⟩
                · refine Ev2.bind (Ev2.eq b3) ?_
                  refine Ev2.congr (fun n k => if_pos rfl) ?_
                  refine Ev2.bind (Ev2.of ec) ?_
                  refine Ev2.bind ev ?_
                  refine Ev2.congr (fun n k => if_pos rfl) ?_
                  refine Ev2.congr (fun n k => if_pos hlen2) ?_
                  refine Ev2.bind (Ev2.now _) ?_
                  refine Ev2.bind (Ev2.of ex) ?_
                  refine Ev2.bind (Ev2.eq y3) ?_
                  refine Ev2.congr (fun n k => if_neg (by simp)) ?_
                  refine Ev2.bind (Ev2.eq z3) ?_
                  refine Ev2.congr (fun n k => if_pos rfl) ?_
                  refine Ev2.bind (Ev2.of eg) ?_
                  exact ev2
                · obtain ⟨ls, zs, rfl, rfl, hz, _⟩ := r3 ho
                  exact ⟨⟨(i : Int), (a : Int)⟩ :: ls, (⟨p0, p1, p2, p3, p4⟩ : S40) :: zs, by simp, by simp, .cons hlt hq' hch w1 b1 b2 w2 hval w3 z1 z2 w4 hz, by omega⟩
              · refine ⟨[], [], false, x, mid _ ?_, by omega, x2, fun ho => by cases ho⟩
                refine Ev2.bind (Ev2.eq b3) ?_
                refine Ev2.congr (fun n k => if_pos rfl) ?_
                refine Ev2.bind (Ev2.of ec) ?_
                refine Ev2.bind ev ?_
                refine Ev2.congr (fun n k => if_pos rfl) ?_
                refine Ev2.congr (fun n k => if_pos hlen2) ?_
                refine Ev2.bind (Ev2.now _) ?_
                refine Ev2.bind (Ev2.of ex) ?_
                refine Ev2.bind (Ev2.eq y3) ?_
                refine Ev2.congr (fun n k => if_neg (by simp)) ?_
                refine Ev2.bind (Ev2.eq z3) ?_
                exact Ev2.congr (fun n k => if_neg (by simp)) (Ev2.now _)
        · refine ⟨[], [], false, b, mid _ ?_, by omega, g2, fun ho => by cases ho⟩
          refine Ev2.bind (Ev2.eq b3) ?_
          exact Ev2.congr (fun n k => if_neg (by simp)) (Ev2.now _)
    · refine ⟨[], [], false, i, ?_, Nat.le_refl _, hi, fun ho => by cases ho⟩
      refine Ev2.step (fun n k => @spec_reader_members.l0.eq_2 (vAt n) _ _ _ _ _) ?_
      refine Ev2.bind (Ev2.eq (here_hv s i)) ?_
      refine Ev2.congr (fun n k => if_neg hq) ?_
      exact hfail i
/-- ████ THE READER OF A VALUE returns at every place of every text; what it says yes to is a value, with its tree of places. -/
theorem value_run (s : ByteArray) (hs : s.size ≤ 2147483647) : ∀ d i, s.size - i < d → i ≤ s.size → VRuns s i := by
  intro d
  induction d with
  | zero => intro i hd; omega
  | succ d ih =>
    intro i hd hi
    have lev : ∀ r, Ev2 (fun n k => @spec_reader_value.f (vAt n) k s (i : Nat)) r → Ev2 (fun n k => (vAt n).f k s (i : Nat)) r := fun r h => Ev2.level (fun n k => rfl) h
    have hj0 : ∀ x : Bool, x = false → ∀ r, Ev2 (fun n k => (spec_reader_word.f s (i : Nat) (⟨#[110, 117, 108, 108]⟩ : ByteArray)).bind fun bt301 => (if bt301.1 = true then (some (0, (i : Int), bt301.2.2, ([] : List (S84)), ([] : List (S40)), true, bt301.2.1, bt301.2.2)) else ((spec_reader_word.f bt301.2.1 bt301.2.2 (⟨#[102, 97, 108, 115, 101]⟩ : ByteArray)).bind fun bt304 => (if bt304.1 = true then (some (1, (i : Int), bt304.2.2, ([] : List (S84)), ([] : List (S40)), true, bt304.2.1, bt304.2.2)) else ((spec_reader_word.f bt304.2.1 bt304.2.2 (⟨#[116, 114, 117, 101]⟩ : ByteArray)).bind fun bt307 => (if bt307.1 = true then (some (2, (i : Int), bt307.2.2, ([] : List (S84)), ([] : List (S40)), true, bt307.2.1, bt307.2.2)) else (some (0, (i : Int), bt307.2.2, ([] : List (S84)), ([] : List (S40)), false, bt307.2.1, bt307.2.2)))))))) r →
        Ev2 (fun n k => spec_reader_value.j0 k true x s (i : Nat) 0 (i : Nat) 0) r := fun x hx r h => by
      refine Ev2.step (fun n k => spec_reader_value.j0.eq_2 _ _ _ _ _ _ _ _) ?_
      exact Ev2.congr (fun n k => if_neg (by simp [hx])) h
    have words : ∀ x : Bool, x = false → ∃ (p : S40) (ok : Bool) (j : Nat), Ev2 (fun n k => spec_reader_value.j0 k true x s (i : Nat) 0 (i : Nat) 0) (p.f0, p.f1, p.f2, p.f3, p.f4, ok, s, (j : Nat)) ∧ i ≤ j ∧ j ≤ s.size ∧ (ok = true → Val s i j p ∧ i < j) := fun x hx => by
      rcases word_cases s hs i hi (⟨#[110, 117, 108, 108]⟩ : ByteArray) (by decide) with ⟨e1, e2, e3⟩ | e1
      · refine ⟨⟨0, i, (i + 4 : Nat), [], []⟩, true, i + 4, hj0 x hx _ ?_, by omega, e2, fun _ => ⟨.null ⟨e2, fun m hm => ?_⟩, by omega⟩⟩
        · refine Ev2.bind (Ev2.eq e1) ?_
          exact Ev2.congr (fun n k => if_pos rfl) (Ev2.now _)
        · rw [e3 m hm]
          match m, hm with
          | 0, _ => rfl
          | 1, _ => rfl
          | 2, _ => rfl
          | 3, _ => rfl
      · rcases word_cases s hs i hi (⟨#[102, 97, 108, 115, 101]⟩ : ByteArray) (by decide) with ⟨f1, f2, f3⟩ | f1
        · refine ⟨⟨1, i, (i + 5 : Nat), [], []⟩, true, i + 5, hj0 x hx _ ?_, by omega, f2, fun _ => ⟨.fals ⟨f2, fun m hm => ?_⟩, by omega⟩⟩
          · refine Ev2.bind (Ev2.eq e1) ?_
            refine Ev2.congr (fun n k => if_neg (by simp)) ?_
            refine Ev2.bind (Ev2.eq f1) ?_
            exact Ev2.congr (fun n k => if_pos rfl) (Ev2.now _)
          · rw [f3 m hm]
            match m, hm with
            | 0, _ => rfl
            | 1, _ => rfl
            | 2, _ => rfl
            | 3, _ => rfl
            | 4, _ => rfl
        · rcases word_cases s hs i hi (⟨#[116, 114, 117, 101]⟩ : ByteArray) (by decide) with ⟨g1, g2, g3⟩ | g1
          · refine ⟨⟨2, i, (i + 4 : Nat), [], []⟩, true, i + 4, hj0 x hx _ ?_, by omega, g2, fun _ => ⟨.tru ⟨g2, fun m hm => ?_⟩, by omega⟩⟩
            · refine Ev2.bind (Ev2.eq e1) ?_
              refine Ev2.congr (fun n k => if_neg (by simp)) ?_
              refine Ev2.bind (Ev2.eq f1) ?_
              refine Ev2.congr (fun n k => if_neg (by simp)) ?_
              refine Ev2.bind (Ev2.eq g1) ?_
              exact Ev2.congr (fun n k => if_pos rfl) (Ev2.now _)
            · rw [g3 m hm]
              match m, hm with
              | 0, _ => rfl
              | 1, _ => rfl
              | 2, _ => rfl
              | 3, _ => rfl
          · refine ⟨⟨0, i, i, [], []⟩, false, i, hj0 x hx _ ?_, Nat.le_refl _, hi, fun ho => by cases ho⟩
            refine Ev2.bind (Ev2.eq e1) ?_
            refine Ev2.congr (fun n k => if_neg (by simp)) ?_
            refine Ev2.bind (Ev2.eq f1) ?_
            refine Ev2.congr (fun n k => if_neg (by simp)) ?_
            refine Ev2.bind (Ev2.eq g1) ?_
            exact Ev2.congr (fun n k => if_neg (by simp)) (Ev2.now _)
    have nums : ∀ x : Bool, x = true → ∃ (p : S40) (ok : Bool) (j : Nat), Ev2 (fun n k => spec_reader_value.j0 k true x s (i : Nat) 0 (i : Nat) 0) (p.f0, p.f1, p.f2, p.f3, p.f4, ok, s, (j : Nat)) ∧ i ≤ j ∧ j ≤ s.size ∧ (ok = true → Val s i j p ∧ i < j) := fun x hx => by
      obtain ⟨ok, j, e, h1, h2, h3⟩ := number_runs s hs i hi
      refine ⟨⟨3, i, j, [], []⟩, ok, j, ?_, h1, h2, fun ho => ⟨.num (h3 ho), (h3 ho).lt⟩⟩
      refine Ev2.step (fun n k => spec_reader_value.j0.eq_2 _ _ _ _ _ _ _ _) ?_
      refine Ev2.congr (fun n k => if_pos hx) ?_
      refine Ev2.bind (Ev2.of e) ?_
      exact Ev2.now _
    have start : ∀ r, Ev2 (fun n k => if hv s i = 123 then ((@spec_reader_members.f (vAt n) k s (i : Nat)).bind fun bt706 => (some (6, (i : Int), bt706.2.2.2.2, bt706.1, bt706.2.1, bt706.2.2.1, bt706.2.2.2.1, bt706.2.2.2.2))) else (if hv s i = 91 then ((@spec_reader_elements.f (vAt n) k s (i : Nat)).bind fun bt715 => (some (5, (i : Int), bt715.2.2.2, ([] : List (S84)), bt715.1, bt715.2.1, bt715.2.2.1, bt715.2.2.2))) else (if hv s i = 34 then ((spec_reader_quoted.f k s (i : Nat)).bind fun bt721 => (some (4, (i : Int), bt721.2.2, ([] : List (S84)), ([] : List (S40)), bt721.1, bt721.2.1, bt721.2.2))) else (if hv s i = 45 then (spec_reader_value.j0 k true true s (i : Nat) 0 (i : Nat) 0) else (if 48 ≤ hv s i then (spec_reader_value.j0 k true (decide (hv s i ≤ 57)) s (i : Nat) 0 (i : Nat) 0) else (spec_reader_value.j0 k true false s (i : Nat) 0 (i : Nat) 0)))))) r → Ev2 (fun n k => (vAt n).f k s (i : Nat)) r := fun r h => by
      refine lev r ?_
      refine Ev2.congr (fun n k => ?_) h
      unfold spec_reader_value.f
      rw [here_hv]
      rfl
    have hin : ∀ c, hv s i = c → c ≠ 0 → i < s.size ∧ bt s i = c := fun c h hc => by
      unfold hv at h
      split at h
      · exact ⟨‹_›, h⟩
      · exact absurd h.symm hc
    by_cases h1 : hv s i = 123
    · obtain ⟨hlt, hc⟩ := hin _ h1 (by decide)
      obtain ⟨a, ea, w1, a1, a2, a3⟩ := blanks_runs s hs (i + 1) (by omega)
      have fr : ∀ r, Ev2 (fun n k => (spec_reader_take.f s (a : Nat) 125).bind fun bt160 => (if bt160.1 = true then (some (([] : List (S84)), ([] : List (S40)), true, bt160.2.1, bt160.2.2)) else (@spec_reader_members.l0 (vAt n) k ([] : List (S84)) ([] : List (S40)) bt160.2.1 bt160.2.2))) r → Ev2 (fun n k => @spec_reader_members.f (vAt n) k s (i : Nat)) r := fun r h => by
        refine Ev2.congr (F := fun n k => (spec_reader_blanks.f k s ((i + 1 : Nat) : Int)).bind fun bt158 => (spec_reader_take.f bt158.1 bt158.2 125).bind fun bt160 => (if bt160.1 = true then (some (([] : List (S84)), ([] : List (S40)), true, bt160.2.1, bt160.2.2)) else (@spec_reader_members.l0 (vAt n) k ([] : List (S84)) ([] : List (S40)) bt160.2.1 bt160.2.2))) (fun n k => ?_) ?_
        · unfold spec_reader_members.f
          rw [wrap_one i (by omega)]
        · exact Ev2.bind (Ev2.of ea) h
      rcases take_cases s hs a 125 with ⟨b1, b2, b3⟩ | ⟨b2, b3⟩
      · refine ⟨⟨6, i, (a + 1 : Nat), [], []⟩, true, a + 1, start _ ?_, by omega, by omega, fun _ => ⟨.obj0 hlt hc w1 b1 b2, by omega⟩⟩
        refine Ev2.congr (fun n k => if_pos h1) ?_
        refine Ev2.bind (fr _ (Ev2.bind (Ev2.eq b3) (Ev2.congr (fun n k => if_pos rfl) (Ev2.now _)))) ?_
        exact Ev2.now _
      · obtain ⟨ms, ys, ok, j, ev2, r1, r2, r3⟩ := members_run s hs (s.size - a + 1) a (by omega) a2 (fun i' hi' hs' => ih i' (by omega) hs') [] [] (by simp) (by simp)
        refine ⟨⟨6, i, j, ms, ys⟩, ok, j, start _ ?_, by omega, r2, fun ho => ?_⟩
        · refine Ev2.congr (fun n k => if_pos h1) ?_
          refine Ev2.bind (fr _ (Ev2.bind (Ev2.eq b3) (Ev2.congr (fun n k => if_neg (by simp)) ev2))) ?_
          exact Ev2.now _
        · obtain ⟨ls, zs, e1, e2, hz, _⟩ := r3 ho
          rw [List.nil_append] at e1 e2
          subst e1
          subst e2
          exact ⟨.obj hlt hc w1 hz, by omega⟩
    · by_cases h2 : hv s i = 91
      · obtain ⟨hlt, hc⟩ := hin _ h2 (by decide)
        obtain ⟨a, ea, w1, a1, a2, a3⟩ := blanks_runs s hs (i + 1) (by omega)
        have fr : ∀ r, Ev2 (fun n k => (spec_reader_take.f s (a : Nat) 93).bind fun bt160 => (if bt160.1 = true then (some (([] : List (S40)), true, bt160.2.1, bt160.2.2)) else (@spec_reader_elements.l0 (vAt n) k ([] : List (S40)) bt160.2.1 bt160.2.2))) r → Ev2 (fun n k => @spec_reader_elements.f (vAt n) k s (i : Nat)) r := fun r h => by
          refine Ev2.congr (F := fun n k => (spec_reader_blanks.f k s ((i + 1 : Nat) : Int)).bind fun bt158 => (spec_reader_take.f bt158.1 bt158.2 93).bind fun bt160 => (if bt160.1 = true then (some (([] : List (S40)), true, bt160.2.1, bt160.2.2)) else (@spec_reader_elements.l0 (vAt n) k ([] : List (S40)) bt160.2.1 bt160.2.2))) (fun n k => ?_) ?_
          · unfold spec_reader_elements.f
            rw [wrap_one i (by omega)]
          · exact Ev2.bind (Ev2.of ea) h
        rcases take_cases s hs a 93 with ⟨b1, b2, b3⟩ | ⟨b2, b3⟩
        · refine ⟨⟨5, i, (a + 1 : Nat), [], []⟩, true, a + 1, start _ ?_, by omega, by omega, fun _ => ⟨.arr0 hlt hc w1 b1 b2, by omega⟩⟩
          refine Ev2.congr (fun n k => if_neg h1) ?_
          refine Ev2.congr (fun n k => if_pos h2) ?_
          refine Ev2.bind (fr _ (Ev2.bind (Ev2.eq b3) (Ev2.congr (fun n k => if_pos rfl) (Ev2.now _)))) ?_
          exact Ev2.now _
        · obtain ⟨ys, ok, j, ev2, r1, r2, r3⟩ := elements_run s hs (s.size - a + 1) a (by omega) a2 (fun i' hi' hs' => ih i' (by omega) hs') [] (by simp)
          refine ⟨⟨5, i, j, [], ys⟩, ok, j, start _ ?_, by omega, r2, fun ho => ?_⟩
          · refine Ev2.congr (fun n k => if_neg h1) ?_
            refine Ev2.congr (fun n k => if_pos h2) ?_
            refine Ev2.bind (fr _ (Ev2.bind (Ev2.eq b3) (Ev2.congr (fun n k => if_neg (by simp)) ev2))) ?_
            exact Ev2.now _
          · obtain ⟨zs, e2, hz, _⟩ := r3 ho
            rw [List.nil_append] at e2
            subst e2
            exact ⟨.arr hlt hc w1 hz, by omega⟩
      · by_cases h3 : hv s i = 34
        · obtain ⟨hlt, hc⟩ := hin _ h3 (by decide)
          obtain ⟨ok, j, e, q1, q2, q3⟩ := quoted_runs s hs i hlt
          refine ⟨⟨4, i, j, [], []⟩, ok, j, start _ ?_, by omega, q2, fun ho => ⟨.str hlt hc (q3 ho), q1⟩⟩
          refine Ev2.congr (fun n k => if_neg h1) ?_
          refine Ev2.congr (fun n k => if_neg h2) ?_
          refine Ev2.congr (fun n k => if_pos h3) ?_
          refine Ev2.bind (Ev2.of e) ?_
          exact Ev2.now _
        · by_cases h4 : hv s i = 45
          · obtain ⟨p, ok, j, e, q1, q2, q3⟩ := nums true rfl
            refine ⟨p, ok, j, start _ ?_, q1, q2, q3⟩
            refine Ev2.congr (fun n k => if_neg h1) ?_
            refine Ev2.congr (fun n k => if_neg h2) ?_
            refine Ev2.congr (fun n k => if_neg h3) ?_
            exact Ev2.congr (fun n k => if_pos h4) e
          · by_cases h5 : 48 ≤ hv s i
            · by_cases h6 : hv s i ≤ 57
              · obtain ⟨p, ok, j, e, q1, q2, q3⟩ := nums (decide (hv s i ≤ 57)) (decide_eq_true h6)
                refine ⟨p, ok, j, start _ ?_, q1, q2, q3⟩
                refine Ev2.congr (fun n k => if_neg h1) ?_
                refine Ev2.congr (fun n k => if_neg h2) ?_
                refine Ev2.congr (fun n k => if_neg h3) ?_
                refine Ev2.congr (fun n k => if_neg h4) ?_
                exact Ev2.congr (fun n k => if_pos h5) e
              · obtain ⟨p, ok, j, e, q1, q2, q3⟩ := words (decide (hv s i ≤ 57)) (decide_eq_false h6)
                refine ⟨p, ok, j, start _ ?_, q1, q2, q3⟩
                refine Ev2.congr (fun n k => if_neg h1) ?_
                refine Ev2.congr (fun n k => if_neg h2) ?_
                refine Ev2.congr (fun n k => if_neg h3) ?_
                refine Ev2.congr (fun n k => if_neg h4) ?_
                exact Ev2.congr (fun n k => if_pos h5) e
            · obtain ⟨p, ok, j, e, q1, q2, q3⟩ := words false rfl
              refine ⟨p, ok, j, start _ ?_, q1, q2, q3⟩
              refine Ev2.congr (fun n k => if_neg h1) ?_
              refine Ev2.congr (fun n k => if_neg h2) ?_
              refine Ev2.congr (fun n k => if_neg h3) ?_
              refine Ev2.congr (fun n k => if_neg h4) ?_
              exact Ev2.congr (fun n k => if_neg h5) e
/-- What a text is: a JSON text, with its tree of places. -/
def Text (s : ByteArray) (p : S40) : Prop := ∃ i j, Ws s 0 i ∧ Val s i j p ∧ Ws s j s.size
theorem places_run (s : ByteArray) (hs : s.size ≤ 2147483647) : ∃ (p : S40) (ok : Bool), Ev (fun k => spec_Places.f k s) (p.f0, p.f1, p.f2, p.f3, p.f4, ok) ∧ (ok = true → Text s p) := by
  obtain ⟨i, ei, w1, i1, i2, i3⟩ := blanks_runs s hs 0 (by omega)
  obtain ⟨⟨p0, p1, p2, p3, p4⟩, ok, j, ev, h1, h2, h3⟩ := value_run s hs _ i (Nat.lt_succ_self _) i2
  have evT : Ev (fun k => spec_reader_valueT.f k s (i : Nat)) (p0, p1, p2, p3, p4, ok, s, (j : Nat)) := by
    obtain ⟨K, hK⟩ := ev
    exact ⟨K, fun k hk => hK k k hk hk⟩
  cases ok with
  | false =>
    refine ⟨⟨0, 0, 0, [], []⟩, false, ?_, fun ho => by cases ho⟩
    refine Ev.congr (fun k => by unfold spec_Places.f; rfl) ?_
    refine Ev.bind ei ?_
    refine Ev.bind evT ?_
    exact Ev.congr (fun k => if_neg (by simp)) (Ev.now _)
  | true =>
    obtain ⟨hval, _⟩ := h3 rfl
    obtain ⟨l, el, w2, l1, l2, l3⟩ := blanks_runs s hs j h2
    by_cases hl : l = s.size
    · refine ⟨⟨p0, p1, p2, p3, p4⟩, true, ?_, fun _ => ⟨i, j, w1, hval, hl ▸ w2⟩⟩
      refine Ev.congr (fun k => by unfold spec_Places.f; rfl) ?_
      refine Ev.bind ei ?_
      refine Ev.bind evT ?_
      refine Ev.congr (fun k => if_pos rfl) ?_
      refine Ev.bind el ?_
      exact Ev.congr (fun k => if_pos (by rw [hl])) (Ev.now _)
    · refine ⟨⟨0, 0, 0, [], []⟩, false, ?_, fun ho => by cases ho⟩
      refine Ev.congr (fun k => by unfold spec_Places.f; rfl) ?_
      refine Ev.bind ei ?_
      refine Ev.bind evT ?_
      refine Ev.congr (fun k => if_pos rfl) ?_
      refine Ev.bind el ?_
      exact Ev.congr (fun k => if_neg (fun h => hl (Int.ofNat.inj h))) (Ev.now _)
end Go.Proofs.YtookccnmgoocpaaGreatDoor.PTwo
