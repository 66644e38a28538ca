/- The printer's function answers on every text of the grammar: the one-line try. -/
import Derived.Test.YtookccnmgoocpaaGreatDoorUgLayA
namespace Go.Proofs.YtookccnmgoocpaaGreatDoor.PTwo
open Go.RowKit Go.Proofs.YtookccnmgoocpaaGreatDoorW.PrintWords Go.Proofs.YtookccnmgoocpaaGreatDoorW.PrintLast Go.Proofs.YtookccnmgoocpaaGreatDoorW.PrintMore
set_option linter.unusedVariables false
theorem Ws.all {s : ByteArray} {i j : Nat} (h : Ws s i j) : ∀ q, i ≤ q → q < j → bt s (q : Nat) ≤ 32 := by
  induction h with
  | nil i => intro q h1 h2; omega
  | @cons a b h1 hb t ih =>
    intro q h2 h3
    by_cases e : q = a
    · subst e; exact hb.le
    · exact ih q (by omega) h3
theorem ValHead.gt {c : Int} (h : ValHead c) : ¬ c ≤ 32 ∧ c ≠ 44 ∧ c ≠ 58 ∧ c ≠ 93 ∧ c ≠ 125 := by unfold ValHead numHead at h; omega
theorem flat_skip {s : ByteArray} {o : List Int} (ho : o.length ≤ 1099511627776) {x : List Int × Nat × Bool} {i : Nat} (hi : i ≤ s.size) : ∀ d i', i - i' = d → i' ≤ i → (∀ q, i' ≤ q → q < i → bt s (q : Nat) ≤ 32 ∨ bt s (q : Nat) = 44) → Ev (fun k => flatAny k (bytesOf s) o i) x → Ev (fun k => flatAny k (bytesOf s) o i') x := by
  intro d
  induction d with
  | zero => intro i' h1 h2 h3 h; obtain rfl : i' = i := by omega
            exact h
  | succ d ih =>
    intro i' h1 h2 h3 h
    refine Ev.step (fun k => ?_) (ih (i' + 1) (by omega) (by omega) (fun q h4 h5 => h3 q (by omega) h5) h)
    rw [flatAny, if_pos ho, if_pos (by rw [bytesOf_length]; omega), if_pos (by rw [rd_bytesOf]; exact h3 i' (Nat.le_refl _) (by omega))]
theorem flatLoop_skip {s : ByteArray} {o : List Int} (ho : o.length ≤ 1099511627777) {x : List Int × Nat × Bool} {n i : Nat} (hi : i ≤ s.size) : ∀ d i', i - i' = d → i' ≤ i → (∀ q, i' ≤ q → q < i → bt s (q : Nat) ≤ 32) → Ev (fun k => flatLoop k (bytesOf s) o i n) x → Ev (fun k => flatLoop k (bytesOf s) o i' n) x := by
  intro d
  induction d with
  | zero => intro i' h1 h2 h3 h; obtain rfl : i' = i := by omega
            exact h
  | succ d ih =>
    intro i' h1 h2 h3 h
    refine Ev.step (fun k => ?_) (ih (i' + 1) (by omega) (by omega) (fun q h4 h5 => h3 q (by omega) h5) h)
    rw [flatLoop, if_pos ho, if_pos (by rw [bytesOf_length]; omega), if_pos (by rw [rd_bytesOf]; exact h3 i' (Nat.le_refl _) (by omega))]
theorem flatLoop_close {s : ByteArray} {o : List Int} (ho : o.length ≤ 1099511627777) {n i : Nat} (hi : i < s.size) (hc : bt s (i : Nat) = 93) : Ev (fun k => flatLoop k (bytesOf s) o i n) (o ++ [93], i + 1, true) := by
  refine Ev.step (f := fun _ => some (o ++ [93], i + 1, true)) (fun k => ?_) (Ev.now _)
  rw [flatLoop, if_pos ho, if_pos (by rw [bytesOf_length]; omega), rd_bytesOf, hc, if_neg (by decide), if_pos rfl]
theorem flatLoop_elem {s : ByteArray} {o : List Int} (ho : o.length ≤ 1099511627777) {n i : Nat} (hi : i < s.size) (h1 : ¬ bt s (i : Nat) ≤ 32) (h2 : bt s (i : Nat) ≠ 93) {r : List Int} {j2 : Nat} {ok : Bool} {x : List Int × Nat × Bool}
    (hv : Ev (fun k => flatAny k (bytesOf s) (if 0 < n then o ++ [44, 32] else o) i) (r, j2, ok)) (hy : ok = true → (1 ≤ j2 ∧ j2 ≤ 4294967295 ∧ n ≤ 4294967295) ∧ Ev (fun k => flatLoop k (bytesOf s) r j2 (n + 1)) x) (hn : ok = false → x = (r, j2, ok)) : Ev (fun k => flatLoop k (bytesOf s) o i n) x := by
  refine Ev.step (f := fun k => (flatAny k (bytesOf s) (if 0 < n then o ++ [44, 32] else o) i).bind fun r => if r.2.2 = true then (if 1 ≤ r.2.1 ∧ r.2.1 ≤ 4294967295 ∧ n ≤ 4294967295 then flatLoop k (bytesOf s) r.1 r.2.1 (n + 1) else none) else some r) (fun k => ?_) (Ev.bind hv ?_)
  · rw [flatLoop, if_pos ho, if_pos (by rw [bytesOf_length]; omega), rd_bytesOf, if_neg h1, if_neg h2]
  · cases ok with
    | true => obtain ⟨h3, h4⟩ := hy rfl
              simp only [if_true]
              rw [show (fun n_1 => if 1 ≤ j2 ∧ j2 ≤ 4294967295 ∧ n ≤ 4294967295 then flatLoop n_1 (bytesOf s) r j2 (n + 1) else none) = (fun n_1 => flatLoop n_1 (bytesOf s) r j2 (n + 1)) from by funext k; rw [if_pos h3]]
              exact h4
    | false => rw [hn rfl]; exact Ev.now _
/-- What the try answers on a value. -/
def FlatV (s : ByteArray) (i j : Nat) : Prop := ∀ o : List Int, o.length ≤ 10000 * i → ∃ (r : List Int) (j2 : Nat) (ok : Bool), Ev (fun k => flatAny k (bytesOf s) o i) (r, j2, ok) ∧ i ≤ j2 ∧ j2 ≤ s.size ∧ o.length ≤ r.length ∧ r.length ≤ 10000 * j2 ∧ (ok = true → j2 = j)
def FlatE (s : ByteArray) (i j : Nat) : Prop := ∀ (o : List Int) (i' n : Nat), i' ≤ i → i' < s.size → ¬ bt s (i' : Nat) ≤ 32 → bt s (i' : Nat) ≠ 93 → (∀ q, i' ≤ q → q < i → bt s (q : Nat) ≤ 32 ∨ bt s (q : Nat) = 44) → n ≤ i' → o.length + 2 ≤ 10000 * i → ∃ (r : List Int) (j2 : Nat) (ok : Bool), Ev (fun k => flatLoop k (bytesOf s) o i' n) (r, j2, ok) ∧ i ≤ j2 ∧ j2 ≤ s.size ∧ o.length ≤ r.length ∧ r.length ≤ 10000 * j2 ∧ (ok = true → j2 = j)
theorem flatV_leaf {s : ByteArray} (hs : s.size ≤ 4096) {i j : Nat} {p : S40} (h : Val s i j p) (hf : Fol s j) (h1 : bt s (i : Nat) ≠ 91) (h2 : bt s (i : Nat) ≠ 123) : FlatV s i j := by
  intro o ho
  obtain ⟨hi, hh⟩ := h.head
  obtain ⟨r, hr, a1, a2⟩ := leaf_run h hf h1 h2 o
  have hlt := h.lt
  have hj := h.size
  have hg := hh.gt
  refine ⟨r, j, true, Ev.step (f := fun _ => some (r, j, true)) (fun k => ?_) (Ev.now _), by omega, hj, a1, by omega, fun _ => rfl⟩
  rw [flatAny, if_pos (by omega), if_pos (by rw [bytesOf_length]; omega), rd_bytesOf, if_neg (by omega), if_neg h2, if_neg h1, hr]
  rfl
theorem flatV_obj {s : ByteArray} (hs : s.size ≤ 4096) {i j : Nat} (hi : i < s.size) (h : bt s (i : Nat) = 123) : FlatV s i j := by
  intro o ho
  refine ⟨o, i, false, Ev.step (f := fun _ => some (o, i, false)) (fun k => ?_) (Ev.now _), Nat.le_refl _, by omega, Nat.le_refl _, ho, fun h => by cases h⟩
  rw [flatAny, if_pos (by omega), if_pos (by rw [bytesOf_length]; omega), rd_bytesOf, h, if_neg (by decide), if_pos rfl]
/-- The try of an array out of its inside. -/
theorem flat_open {s : ByteArray} (hs : s.size ≤ 4096) {i : Nat} (hi : i < s.size) (h : bt s (i : Nat) = 91) {o : List Int} (ho : o.length ≤ 10000 * i) {x : List Int × Nat × Bool} (hl : Ev (fun k => flatLoop k (bytesOf s) (o ++ [91]) (i + 1) 0) x) : Ev (fun k => flatArr k (bytesOf s) o i) x := by
  refine Ev.step (fun k => ?_) hl
  rw [flatArr, if_pos (by omega)]
theorem flat_arr {s : ByteArray} (hs : s.size ≤ 4096) {i : Nat} (hi : i < s.size) (h : bt s (i : Nat) = 91) {o : List Int} (ho : o.length ≤ 10000 * i) {x : List Int × Nat × Bool} (hl : Ev (fun k => flatArr k (bytesOf s) o i) x) : Ev (fun k => flatAny k (bytesOf s) o i) x := by
  refine Ev.step (fun k => ?_) hl
  rw [flatAny, if_pos (by omega), if_pos (by rw [bytesOf_length]; omega), rd_bytesOf, h, if_neg (by decide), if_neg (by decide), if_pos rfl]
def FlatA (s : ByteArray) (i j : Nat) : Prop := ∀ o : List Int, o.length ≤ 10000 * i → ∃ (r : List Int) (j2 : Nat) (ok : Bool), Ev (fun k => flatArr k (bytesOf s) o i) (r, j2, ok) ∧ i ≤ j2 ∧ j2 ≤ s.size ∧ o.length ≤ r.length ∧ r.length ≤ 10000 * j2 ∧ (ok = true → j2 = j)
theorem FlatA.val {s : ByteArray} (hs : s.size ≤ 4096) {i j : Nat} (hi : i < s.size) (h : bt s (i : Nat) = 91) (ha : FlatA s i j) : FlatV s i j := by
  intro o ho
  obtain ⟨r, j2, ok, e, h1⟩ := ha o ho
  exact ⟨r, j2, ok, flat_arr hs hi h ho e, h1⟩
theorem flatA_arr0 {s : ByteArray} (hs : s.size ≤ 4096) {i a : Nat} (hi : i < s.size) (h : bt s (i : Nat) = 91) (hw : Ws s (i + 1) a) (ha : a < s.size) (he : bt s (a : Nat) = 93) : FlatA s i (a + 1) := by
  intro o ho
  have hle := hw.le
  have hlen : (o ++ [(91 : Int)]).length = o.length + 1 := by simp
  refine ⟨_, _, true, flat_open hs hi h ho (flatLoop_skip (by omega) (by omega) _ (i + 1) rfl hle hw.all (flatLoop_close (by omega) ha he)), by omega, by omega, by simp <;> omega, by simp <;> omega, fun _ => rfl⟩
theorem flatA_arr {s : ByteArray} (hs : s.size ≤ 4096) {i a j : Nat} (hi : i < s.size) (h : bt s (i : Nat) = 91) (hw : Ws s (i + 1) a) (ha : a < s.size) (hh : ValHead (bt s (a : Nat))) (hk : FlatE s a j) : FlatA s i j := by
  intro o ho
  have hle := hw.le
  have hg := hh.gt
  have hlen : (o ++ [(91 : Int)]).length = o.length + 1 := by simp
  obtain ⟨r, j2, ok, e, h1, h2, h3, h4, h5⟩ := hk (o ++ [91]) a 0 (Nat.le_refl _) ha hg.1 hg.2.2.2.1 (fun q h1 h2 => by omega) (by omega) (by omega)
  exact ⟨r, j2, ok, flat_open hs hi h ho (flatLoop_skip (by omega) (by omega) _ (i + 1) rfl hle hw.all e), by omega, h2, by omega, h4, h5⟩
theorem flatE_last {s : ByteArray} (hs : s.size ≤ 4096) {i a b : Nat} (hv : FlatV s i a) (hlt : i < a) (hi : i ≤ s.size) (w : Ws s a b) (hb : b < s.size) (he : bt s (b : Nat) = 93) : FlatE s i (b + 1) := by
  intro o i' n h1 h2 h3 h4 h5 h6 h7
  have hle := w.le
  have hlen : (if 0 < n then o ++ [(44 : Int), 32] else o).length ≤ o.length + 2 ∧ o.length ≤ (if 0 < n then o ++ [(44 : Int), 32] else o).length := by split <;> simp
  obtain ⟨r, j2, ok, e, a1, a2, a3, a4, a5⟩ := hv (if 0 < n then o ++ [44, 32] else o) (by omega)
  have e2 := flat_skip (by omega) hi _ i' rfl h1 h5 e
  cases ok with
  | false => exact ⟨r, j2, false, flatLoop_elem (by omega) h2 h3 h4 e2 (fun h => by cases h) (fun _ => rfl), a1, a2, by omega, a4, fun h => by cases h⟩
  | true =>
    obtain rfl := a5 rfl
    exact ⟨r ++ [93], b + 1, true, flatLoop_elem (by omega) h2 h3 h4 e2 (fun _ => ⟨by omega, flatLoop_skip (by omega) (by omega) _ j2 rfl hle w.all (flatLoop_close (by omega) hb he)⟩) (fun h => by cases h), by omega, by omega, by simp <;> omega, by simp <;> omega, fun _ => rfl⟩
theorem flatE_cons {s : ByteArray} (hs : s.size ≤ 4096) {i a b c j : Nat} (hv : FlatV s i a) (hlt : i < a) (hi : i ≤ s.size) (w : Ws s a b) (hb : b < s.size) (he : bt s (b : Nat) = 44) (w2 : Ws s (b + 1) c) (hc : c < s.size) (hh : ValHead (bt s (c : Nat))) (hk : FlatE s c j) : FlatE s i j := by
  intro o i' n h1 h2 h3 h4 h5 h6 h7
  have hle := w.le
  have hle2 := w2.le
  have hlen : (if 0 < n then o ++ [(44 : Int), 32] else o).length ≤ o.length + 2 ∧ o.length ≤ (if 0 < n then o ++ [(44 : Int), 32] else o).length := by split <;> simp
  obtain ⟨r, j2, ok, e, a1, a2, a3, a4, a5⟩ := hv (if 0 < n then o ++ [44, 32] else o) (by omega)
  have e2 := flat_skip (by omega) hi _ i' rfl h1 h5 e
  cases ok with
  | false => exact ⟨r, j2, false, flatLoop_elem (by omega) h2 h3 h4 e2 (fun h => by cases h) (fun _ => rfl), a1, a2, by omega, a4, fun h => by cases h⟩
  | true =>
    obtain rfl := a5 rfl
    obtain ⟨r3, j3, ok3, e3, b1, b2, b3, b4, b5⟩ := hk r b (n + 1) (by omega) hb (by omega) (by omega) (fun q q1 q2 => by
      by_cases eq : q = b
      · subst eq; exact Or.inr he
      · exact Or.inl (w2.all q (by omega) q2)) (by omega) (by omega)
    exact ⟨r3, j3, ok3, flatLoop_elem (by omega) h2 h3 h4 e2 (fun _ => ⟨by omega, flatLoop_skip (by omega) (by omega) _ j2 rfl hle w.all e3⟩) (fun h => by cases h), by omega, by omega, by omega, b4, b5⟩
theorem Elems.head {s : ByteArray} {i j : Nat} {ps : List S40} (h : Elems s i j ps) : i < s.size ∧ ValHead (bt s (i : Nat)) := by
  cases h with
  | last v w hb he => exact v.head
  | cons v w hb he w2 t => exact v.head
mutual
theorem Val.flat {s : ByteArray} (hs : s.size ≤ 4096) {i j : Nat} {p : S40} : Val s i j p → Fol s j → FlatV s i j
  | .null h, hf => flatV_leaf hs (.null h) hf (by have := h.2 0 (by decide); simp at this; omega) (by have := h.2 0 (by decide); simp at this; omega)
  | .fals h, hf => flatV_leaf hs (.fals h) hf (by have := h.2 0 (by decide); simp at this; omega) (by have := h.2 0 (by decide); simp at this; omega)
  | .tru h, hf => flatV_leaf hs (.tru h) hf (by have := h.2 0 (by decide); simp at this; omega) (by have := h.2 0 (by decide); simp at this; omega)
  | .num h, hf => flatV_leaf hs (.num h) hf (by have := h.head; unfold numHead at this; omega) (by have := h.head; unfold numHead at this; omega)
  | .str h hq t, hf => flatV_leaf hs (.str h hq t) hf (by omega) (by omega)
  | .arr0 h hb hw ha he, hf => (flatA_arr0 hs h hb hw ha he).val hs h hb
  | .arr h hb hw hk, hf => (flatA_arr hs h hb hw (Elems.head hk).1 (Elems.head hk).2 (Elems.flat hs hk)).val hs h hb
  | .obj0 h hb hw ha he, hf => flatV_obj hs h hb
  | .obj h hb hw hk, hf => flatV_obj hs h hb
theorem Elems.flat {s : ByteArray} (hs : s.size ≤ 4096) {i j : Nat} {ps : List S40} : Elems s i j ps → FlatE s i j
  | .last v w hb he => flatE_last hs (Val.flat hs v (w.fol (fol_of (by omega)))) (Val.lt v) (by have := (Val.head v).1; omega) w hb he
  | .cons v w hb he w2 t => flatE_cons hs (Val.flat hs v (w.fol (fol_of (by omega)))) (Val.lt v) (by have := (Val.head v).1; omega) w hb he w2 (Elems.head t).1 (Elems.head t).2 (Elems.flat hs t)
end
end Go.Proofs.YtookccnmgoocpaaGreatDoor.PTwo
