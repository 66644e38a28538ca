/- What Tree makes of a text's tree of places, as a relation; and that Read and gjText return. Plain Lean: no memory and no Go. -/
import Derived.Test.YtookccnmgoocpaaGreatDoorUgRunsE
import Derived.Test.YtookccnmgoocpaaGreatDoorUgPTwox28
namespace Go.Proofs.YtookccnmgoocpaaGreatDoor.PTwo
open Go.RowKit Go.Proofs.YtookccnmgoocpaaGreatDoorW.PrintWords Go.Proofs.YtookccnmgoocpaaGreatDoorW.PrintLast Go.Proofs.YtookccnmgoocpaaGreatDoorW.PrintMore
set_option linter.unusedVariables false
/-- A name stands at a place. -/
def NameAt (s : ByteArray) (n : S84) : Prop := ∃ i a : Nat, n = ⟨i, a⟩ ∧ i < s.size ∧ bt s i = 34 ∧ Chars s (i + 1) a
theorem Elems.kids {s : ByteArray} {i j : Nat} {ps : List S40} : Elems s i j ps → ∀ p, p ∈ ps → ∃ a b, Val s a b p ∧ i ≤ a ∧ b < j
  | .last v w hb he => fun p hp => by
    obtain rfl := List.mem_singleton.1 hp
    have := w.le
    exact ⟨_, _, v, Nat.le_refl _, by omega⟩
  | .cons v w hb he w2 t => fun p hp => by
    have := w.le
    have := w2.le
    have := t.lt
    have := v.lt
    rcases List.mem_cons.1 hp with rfl | hp
    · exact ⟨_, _, v, Nat.le_refl _, by omega⟩
    · obtain ⟨a, b, v2, h1, h2⟩ := Elems.kids t p hp
      exact ⟨a, b, v2, by omega, h2⟩
theorem Mems.kids {s : ByteArray} {i j : Nat} {ns : List S84} {ps : List S40} : Mems s i j ns ps → ∀ p, p ∈ ps → ∃ a b, Val s a b p ∧ i ≤ a ∧ b < j
  | .last hi hq n w hb hc w2 v w3 he hz => fun p hp => by
    obtain rfl := List.mem_singleton.1 hp
    have := n.lt; have := w.le; have := w2.le; have := v.lt; have := w3.le
    exact ⟨_, _, v, by omega, by omega⟩
  | .cons hi hq n w hb hc w2 v w3 he hz w4 t => fun p hp => by
    have := n.lt; have := w.le; have := w2.le; have := v.lt; have := w3.le; have := w4.le; have := t.lt
    rcases List.mem_cons.1 hp with rfl | hp
    · exact ⟨_, _, v, by omega, by omega⟩
    · obtain ⟨a, b, v2, h1, h2⟩ := Mems.kids t p hp
      exact ⟨a, b, v2, by omega, h2⟩
theorem Mems.names {s : ByteArray} {i j : Nat} {ns : List S84} {ps : List S40} : Mems s i j ns ps → ∀ n, n ∈ ns → NameAt s n
  | .last hi hq n w hb hc w2 v w3 he hz => fun p hp => by
    obtain rfl := List.mem_singleton.1 hp
    exact ⟨_, _, rfl, hi, hq, n⟩
  | .cons hi hq n w hb hc w2 v w3 he hz w4 t => fun p hp => by
    rcases List.mem_cons.1 hp with rfl | hp
    · exact ⟨_, _, rfl, hi, hq, n⟩
    · exact Mems.names t p hp
/-- A value's children are values, and its names are names. -/
theorem Val.kids {s : ByteArray} {i j : Nat} {p : S40} (h : Val s i j p) : (∀ q, q ∈ p.f4 → ∃ a b, Val s a b q ∧ i < a ∧ b < j) ∧ (∀ n, n ∈ p.f3 → NameAt s n) ∧ p.f4.length ≤ s.size ∧ p.f3.length ≤ s.size := by
  cases h with
  | arr h hb hw hk =>
    have := hw.le
    have := hk.len
    have := hk.size
    refine ⟨?_, ?_, (by dsimp only; omega), Nat.zero_le _⟩
    · intro q hq
      obtain ⟨a, b, v, h1, h2⟩ := hk.kids q hq
      exact ⟨a, b, v, by omega, h2⟩
    · intro n hn
      exact absurd hn (List.not_mem_nil)
  | obj h hb hw hk =>
    have := hw.le
    have := hk.len
    have := hk.size
    refine ⟨?_, fun n hn => hk.names n hn, (by dsimp only; omega), (by dsimp only; omega)⟩
    intro q hq
    obtain ⟨a, b, v, h1, h2⟩ := hk.kids q hq
    exact ⟨a, b, v, by omega, h2⟩
  | _ => exact ⟨fun q hq => absurd hq List.not_mem_nil, fun n hn => absurd hn List.not_mem_nil, Nat.zero_le _, Nat.zero_le _⟩
/-- What the string between two places stands for. -/
def StrR (s : ByteArray) (i j : Nat) (y : ByteArray) : Prop := ∃ o, Unq ((s.extract i j).extract 1 (j - i - 1)) 0 o ∧ y = strOfNums o
theorem unquote_runs (s : ByteArray) (hs : s.size ≤ 2147483647) (i j : Nat) (hc : Chars s (i + 1) j) : ∃ y, StrR s i j y ∧ Ev (fun k => spec_Unquote.f k (s.extract i j)) y := by
  have h1 := hc.lt
  have h2 := hc.size
  have hz : (s.extract i j).size = j - i := by rw [ByteArray.size_extract]; omega
  have hz2 : ((s.extract i j).extract 1 (j - i - 1)).size = j - i - 2 := by rw [ByteArray.size_extract]; omega
  have hb : ∀ m, m < ((s.extract i j).extract 1 (j - i - 1)).size → bt ((s.extract i j).extract 1 (j - i - 1)) (m : Nat) = bt s (i + 1 + m : Nat) := fun m hm => by
    rw [bt_extract _ 1 (j - i - 1) m (by omega) (by omega), bt_extract _ i j (1 + m) (by omega) (by omega)]
    congr 2
    omega
  obtain ⟨o, u, _, e⟩ := unq_runs _ (by omega) _ 0 (Nat.lt_succ_self _) (hc.ins hb 0 rfl (by omega)) [] (by simp)
  refine ⟨strOfNums o, ⟨o, u, rfl⟩, Ev.congr (fun k => ?_) e⟩
  unfold spec_Unquote.f
  rw [hz, show wrap64 (((j - i : Nat) : Int) - 1) = ((j - i - 1 : Nat) : Int) from by unfold wrap64; omega, if_pos (by omega), if_pos (by omega)]
  rfl
/-- Two lists, one by one. -/
inductive All2 {α β : Type} (R : α → β → Prop) : List α → List β → Prop
  | nil : All2 R [] []
  | cons {a : α} {b : β} {l : List α} {m : List β} (h : R a b) (t : All2 R l m) : All2 R (a :: l) (b :: m)
/-- A name's letters. -/
def NameR (s : ByteArray) (n : S84) (y : ByteArray) : Prop := ∃ i a : Nat, n = ⟨i, a⟩ ∧ Chars s (i + 1) a ∧ StrR s i a y
mutual
/-- The tree of a value's letters. -/
inductive TreeR (s : ByteArray) : S40 → S25 → Prop
  | word {p : S40} (h3 : p.f0 ≠ 3) (h4 : p.f0 ≠ 4) {ys : List ByteArray} {ts : List S25} (hn : All2 (NameR s) p.f3 ys) (hc : TreesR s p.f4 ts) : TreeR s p ⟨p.f0, ⟨#[]⟩, ys, ts⟩
  | num {i j : Nat} : TreeR s ⟨3, i, j, [], []⟩ ⟨3, s.extract i j, [], []⟩
  | str {i j : Nat} {y : ByteArray} (h : StrR s i j y) : TreeR s ⟨4, i, j, [], []⟩ ⟨4, y, [], []⟩
inductive TreesR (s : ByteArray) : List S40 → List S25 → Prop
  | nil : TreesR s [] []
  | cons {p : S40} {t : S25} {ps : List S40} {ts : List S25} (h : TreeR s p t) (k : TreesR s ps ts) : TreesR s (p :: ps) (t :: ts)
end
theorem rd84_drop {l : List S84} {m : Nat} {x : S84} {r : List S84} (h : l.drop m = x :: r) : rd_T84 l (m : Nat) = x ∧ m < l.length ∧ l.drop (m + 1) = r ∧ x ∈ l := by
  have hlt : m < l.length := by
    rcases Nat.lt_or_ge m l.length with h1 | h1
    · exact h1
    · rw [List.drop_eq_nil_of_le h1] at h; cases h
  rw [List.drop_eq_getElem_cons hlt] at h
  injection h with h1 h2
  refine ⟨?_, hlt, h2, h1 ▸ List.getElem_mem hlt⟩
  show l.getD (Int.toNat (m : Nat)) z84 = x
  rw [Int.toNat_natCast, List.getD_eq_getElem?_getD, List.getElem?_eq_getElem hlt, h1]
  rfl
theorem rd40_drop {l : List S40} {m : Nat} {x : S40} {r : List S40} (h : l.drop m = x :: r) : rd_T40 l (m : Nat) = x ∧ m < l.length ∧ l.drop (m + 1) = r ∧ x ∈ l := by
  have hlt : m < l.length := by
    rcases Nat.lt_or_ge m l.length with h1 | h1
    · exact h1
    · rw [List.drop_eq_nil_of_le h1] at h; cases h
  rw [List.drop_eq_getElem_cons hlt] at h
  injection h with h1 h2
  refine ⟨?_, hlt, h2, h1 ▸ List.getElem_mem hlt⟩
  show l.getD (Int.toNat (m : Nat)) z40 = x
  rw [Int.toNat_natCast, List.getD_eq_getElem?_getD, List.getElem?_eq_getElem hlt, h1]
  rfl
/-- A value's children are made into trees, one by one. -/
theorem tree_l1 (s : ByteArray) (hs : s.size ≤ 2147483647) (q0 q1 q2 : Int) (q3 : List S84) (q4 : List S40) (hl : q4.length ≤ s.size) (x0 : Int) (x1 : ByteArray) (x2 : List ByteArray)
    (hk : ∀ p, p ∈ q4 → ∃ t : S25, TreeR s p t ∧ Ev (fun k => spec_Tree.f k s p.f0 p.f1 p.f2 p.f3 p.f4) (t.f0, t.f1, t.f2, t.f3)) :
    ∀ (r : List S40) (m : Nat) (ts : List S25), q4.drop m = r → m ≤ q4.length → ts.length = m → ∃ us, TreesR s r us ∧ Ev (fun k => spec_Tree.l1 k s (m : Nat) q0 q1 q2 q3 q4 x0 x1 x2 ts) (x0, x1, x2, ts ++ us) := by
  intro r
  induction r with
  | nil =>
    intro m ts hd hm ht
    refine ⟨[], .nil, ?_⟩
    rw [List.append_nil]
    have hge : q4.length ≤ m := List.drop_eq_nil_iff.1 hd
    refine Ev.step (f := fun _ => some (x0, x1, x2, ts)) (fun k => ?_) (Ev.now _)
    simp only [spec_Tree.l1]
    rw [if_neg (by omega)]
  | cons p r ih =>
    intro m ts hd hm ht
    obtain ⟨e1, h1, h2, h3⟩ := rd40_drop hd
    obtain ⟨⟨t0, t1, t2, t3⟩, tr, ev⟩ := hk p h3
    obtain ⟨us, ur, eu⟩ := ih (m + 1) (ts ++ [⟨t0, t1, t2, t3⟩]) h2 (by omega) (by simp [ht])
    refine ⟨⟨t0, t1, t2, t3⟩ :: us, .cons tr ur, ?_⟩
    rw [show ∀ t : S25, ts ++ t :: us = (ts ++ [t]) ++ us from by simp]
    have hst : ∀ k, spec_Tree.l1 (k + 1) s (m : Nat) q0 q1 q2 q3 q4 x0 x1 x2 ts = (spec_Tree.f k s p.f0 p.f1 p.f2 p.f3 p.f4).bind fun b => spec_Tree.l1 k s ((m + 1 : Nat) : Int) q0 q1 q2 q3 q4 x0 x1 x2 (ts ++ [(⟨b.1, b.2.1, b.2.2.1, b.2.2.2⟩ : S25)]) := fun k => by
      simp only [spec_Tree.l1]
      rw [if_pos (by omega), if_pos (by omega), e1, wrap_one m (by omega)]
      congr 1
      funext b
      rw [if_pos (by omega)]
    exact Ev.step hst (Ev.bind ev (by exact eu))
theorem tree_l0 (s : ByteArray) (hs : s.size ≤ 2147483647) (q0 q1 q2 : Int) (q3 : List S84) (q4 : List S40) (hl : q4.length ≤ s.size) (hl3 : q3.length ≤ s.size) (x0 : Int) (x1 : ByteArray)
    (hn : ∀ n, n ∈ q3 → NameAt s n)
    (hk : ∀ p, p ∈ q4 → ∃ t : S25, TreeR s p t ∧ Ev (fun k => spec_Tree.f k s p.f0 p.f1 p.f2 p.f3 p.f4) (t.f0, t.f1, t.f2, t.f3)) :
    ∀ (r : List S84) (m : Nat) (ys : List ByteArray), q3.drop m = r → m ≤ q3.length → ys.length = m → ∃ zs us, All2 (NameR s) r zs ∧ TreesR s q4 us ∧ Ev (fun k => spec_Tree.l0 k s (m : Nat) q0 q1 q2 q3 q4 x0 x1 ys) (x0, x1, ys ++ zs, us) := by
  intro r
  induction r with
  | nil =>
    intro m ys hd hm ht
    obtain ⟨us, ur, eu⟩ := tree_l1 s hs q0 q1 q2 q3 q4 hl x0 x1 ys hk q4 0 [] rfl (by omega) rfl
    refine ⟨[], us, .nil, ur, ?_⟩
    rw [List.append_nil]
    have hge : q3.length ≤ m := List.drop_eq_nil_iff.1 hd
    refine Ev.step (fun k => ?_) eu
    simp only [spec_Tree.l0]
    rw [if_neg (by omega)]
    rfl
  | cons n r ih =>
    intro m ys hd hm ht
    obtain ⟨e1, h1, h2, h3⟩ := rd84_drop hd
    obtain ⟨i, a, rfl, g1, g2, g3⟩ := hn n h3
    have g4 := g3.lt
    have g5 := g3.size
    obtain ⟨y, yr, ey⟩ := unquote_runs s hs i a g3
    obtain ⟨zs, us, zr, ur, eu⟩ := ih (m + 1) (ys ++ [y]) h2 (by omega) (by simp [ht])
    refine ⟨y :: zs, us, .cons ⟨i, a, rfl, g3, yr⟩ zr, ur, ?_⟩
    rw [show ys ++ y :: zs = (ys ++ [y]) ++ zs from by simp]
    have hst : ∀ k, spec_Tree.l0 (k + 1) s (m : Nat) q0 q1 q2 q3 q4 x0 x1 ys = (spec_Unquote.f k (s.extract i a)).bind fun b => spec_Tree.l0 k s ((m + 1 : Nat) : Int) q0 q1 q2 q3 q4 x0 x1 (ys ++ [b]) := fun k => by
      simp only [spec_Tree.l0]
      rw [if_pos (by omega), if_pos (by omega), e1, wrap_one m (by omega)]
      dsimp only
      rw [if_pos (by omega), if_pos (by omega), if_pos (by omega)]
      simp only [Int.toNat_natCast]
      congr 1
      funext b
      rw [if_pos (by omega)]
    exact Ev.step hst (Ev.bind ey eu)
theorem tree_runs (s : ByteArray) (hs : s.size ≤ 2147483647) : ∀ d i j (p : S40), j - i < d → Val s i j p → ∃ t : S25, TreeR s p t ∧ Ev (fun k => spec_Tree.f k s p.f0 p.f1 p.f2 p.f3 p.f4) (t.f0, t.f1, t.f2, t.f3) := by
  intro d
  induction d with
  | zero => intro i j p hd; omega
  | succ d ih =>
    intro i j p hd hv
    obtain ⟨hk1, hk2, hk3, hk4⟩ := hv.kids
    have hlt := hv.lt
    have hsz := hv.size
    have hk : ∀ q, q ∈ p.f4 → ∃ t : S25, TreeR s q t ∧ Ev (fun k => spec_Tree.f k s q.f0 q.f1 q.f2 q.f3 q.f4) (t.f0, t.f1, t.f2, t.f3) := fun q hq => by
      obtain ⟨a, b, v, h1, h2⟩ := hk1 q hq
      exact ih a b q (by have := v.lt; omega) v
    have hj : ∀ x1, ∃ zs us, All2 (NameR s) p.f3 zs ∧ TreesR s p.f4 us ∧ Ev (fun k => spec_Tree.j0 k s p.f0 p.f1 p.f2 p.f3 p.f4 p.f0 x1) (p.f0, x1, zs, us) := fun x1 => by
      obtain ⟨zs, us, h1, h2, h3⟩ := tree_l0 s hs p.f0 p.f1 p.f2 p.f3 p.f4 hk3 hk4 p.f0 x1 hk2 hk p.f3 0 [] rfl (by omega) rfl
      exact ⟨zs, us, h1, h2, Ev.step (fun k => by simp only [spec_Tree.j0]; rfl) h3⟩
    have word : p.f0 ≠ 3 → p.f0 ≠ 4 → ∃ t : S25, TreeR s p t ∧ Ev (fun k => spec_Tree.f k s p.f0 p.f1 p.f2 p.f3 p.f4) (t.f0, t.f1, t.f2, t.f3) := fun h3 h4 => by
      obtain ⟨zs, us, g1, g2, g3⟩ := hj ⟨#[]⟩
      refine ⟨⟨p.f0, ⟨#[]⟩, zs, us⟩, .word h3 h4 g1 g2, Ev.step (fun k => ?_) g3⟩
      simp only [spec_Tree.f]
      rw [if_neg h3, if_neg h4]
    cases hv with
    | num h =>
      obtain ⟨zs, us, g1, g2, g3⟩ := hj (s.extract i j)
      cases g1
      cases g2
      refine ⟨_, .num, Ev.step (fun k => ?_) g3⟩
      simp only [spec_Tree.f]
      rw [if_pos trivial, if_pos (by omega), if_pos (by omega), if_pos (by omega)]
      simp only [Int.toNat_natCast]
    | str h hq t =>
      obtain ⟨y, yr, ey⟩ := unquote_runs s hs i j t
      obtain ⟨zs, us, g1, g2, g3⟩ := hj y
      cases g1
      cases g2
      refine ⟨_, .str yr, Ev.step (fun k => ?_) (Ev.bind (f := fun k b => spec_Tree.j0 k s 4 (i : Nat) (j : Nat) [] [] 4 b) ey g3)⟩
      simp only [spec_Tree.f]
      rw [if_neg (by decide), if_pos trivial, if_pos (by omega), if_pos (by omega), if_pos (by omega)]
      simp only [Int.toNat_natCast]
    | null h => exact word (by dsimp only; decide) (by dsimp only; decide)
    | fals h => exact word (by dsimp only; decide) (by dsimp only; decide)
    | tru h => exact word (by dsimp only; decide) (by dsimp only; decide)
    | arr0 h hb hw ha he => exact word (by dsimp only; decide) (by dsimp only; decide)
    | arr h hb hw hk => exact word (by dsimp only; decide) (by dsimp only; decide)
    | obj0 h hb hw ha he => exact word (by dsimp only; decide) (by dsimp only; decide)
    | obj h hb hw hk => exact word (by dsimp only; decide) (by dsimp only; decide)
/-- Reading returns; and what it says yes to is a text, with its tree. -/
theorem read_runs (s : ByteArray) (hs : s.size ≤ 2147483647) : ∃ (t : S25) (ok : Bool), Ev (fun k => spec_Read.f k s) (t.f0, t.f1, t.f2, t.f3, ok) ∧ (ok = true → ∃ p, Text s p ∧ TreeR s p t ∧ Ev (fun k => spec_Places.f k s) (p.f0, p.f1, p.f2, p.f3, p.f4, true)) := by
  obtain ⟨p, ok, e, h⟩ := places_run s hs
  have hst : ∀ k, spec_Read.f k s = (spec_Places.f k s).bind fun b => if b.2.2.2.2.2 = true then (spec_Tree.f k s b.1 b.2.1 b.2.2.1 b.2.2.2.1 b.2.2.2.2.1).bind fun c => some (c.1, c.2.1, c.2.2.1, c.2.2.2, true) else some (0, (⟨#[]⟩ : ByteArray), ([] : List ByteArray), ([] : List S25), false) := fun k => by
    unfold spec_Read.f
    rfl
  cases ok with
  | false =>
    exact ⟨⟨0, ⟨#[]⟩, [], []⟩, false, Ev.congr hst (Ev.bind e (Ev.congr (fun k => if_neg (by simp)) (Ev.now _))), fun h => by cases h⟩
  | true =>
    have ht := h rfl
    obtain ⟨i, j, w1, v, w2⟩ := h rfl
    obtain ⟨t, tr, et⟩ := tree_runs s hs _ i j p (Nat.lt_succ_self _) v
    refine ⟨t, true, Ev.congr hst (Ev.bind e (Ev.congr (fun k => if_pos rfl) (Ev.bind et (Ev.now _)))), fun _ => ⟨p, ht, tr, e⟩⟩
theorem gjText_runs (s : ByteArray) : ∃ (t : S25) (ok : Bool), Ev (fun k => laws_gjText.f k s) (t.f0, t.f1, t.f2, t.f3, ok) ∧ (ok = true → s.size ≤ 65536 ∧ ∃ p, Text s p ∧ TreeR s p t ∧ Ev (fun k => spec_Places.f k s) (p.f0, p.f1, p.f2, p.f3, p.f4, true)) := by
  by_cases hz : (s.size : Int) > 65536
  · refine ⟨⟨0, ⟨#[]⟩, [], []⟩, false, Ev.congr (fun k => ?_) (Ev.now _), fun h => by cases h⟩
    unfold laws_gjText.f
    rw [if_pos hz]
  · have hs : s.size ≤ 2147483647 := by omega
    obtain ⟨u, eu⟩ := utf8_runs s hs
    obtain ⟨q, eq⟩ := paired_runs s hs
    obtain ⟨t, ok, e, h⟩ := read_runs s hs
    have hst : ∀ k, laws_gjText.f k s = (spec_UTF8.f k s).bind fun b => if b = true then ((spec_Paired.f k s).bind fun c => if c = true then ((spec_Read.f k s).bind fun d => some (d.1, d.2.1, d.2.2.1, d.2.2.2.1, d.2.2.2.2)) else some (0, (⟨#[]⟩ : ByteArray), ([] : List ByteArray), ([] : List S25), false)) else some (0, (⟨#[]⟩ : ByteArray), ([] : List ByteArray), ([] : List S25), false) := fun k => by
      unfold laws_gjText.f
      rw [if_neg hz]
    cases u with
    | false => exact ⟨⟨0, ⟨#[]⟩, [], []⟩, false, Ev.congr hst (Ev.bind eu (Ev.congr (fun k => if_neg (by simp)) (Ev.now _))), fun h => by cases h⟩
    | true =>
      cases q with
      | false => exact ⟨⟨0, ⟨#[]⟩, [], []⟩, false, Ev.congr hst (Ev.bind eu (Ev.congr (fun k => if_pos rfl) (Ev.bind eq (Ev.congr (fun k => if_neg (by simp)) (Ev.now _))))), fun h => by cases h⟩
      | true => exact ⟨t, ok, Ev.congr hst (Ev.bind eu (Ev.congr (fun k => if_pos rfl) (Ev.bind eq (Ev.congr (fun k => if_pos rfl) (Ev.bind e (Ev.now _)))))), fun ho => ⟨by omega, h ho⟩⟩
end Go.Proofs.YtookccnmgoocpaaGreatDoor.PTwo
