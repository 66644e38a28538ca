/- The printer's function answers on every text of the grammar: the full printing. -/
import Derived.Test.YtookccnmgoocpaaGreatDoorUgLayB
namespace Go.Proofs.YtookccnmgoocpaaGreatDoor.PTwo
open Go.RowKit Go.Proofs.YtookccnmgoocpaaGreatDoorW.PrintWords Go.Proofs.YtookccnmgoocpaaGreatDoorW.PrintLast Go.Proofs.YtookccnmgoocpaaGreatDoorW.PrintMore
set_option linter.unusedVariables false
abbrev FRes := List Int × Nat × Int × Bool
theorem prClose_len (o : List Int) (tabs n : Nat) (nl : Int) (obj : Bool) (h0 : 0 ≤ nl) (h1 : nl ≤ 100000000) (h2 : o.length ≤ 100000000) : o.length ≤ (prClose o tabs n nl obj).1.length ∧ (prClose o tabs n nl obj).1.length ≤ o.length + 2 * tabs + 2 ∧ 0 ≤ (prClose o tabs n nl obj).2 ∧ (prClose o tabs n nl obj).2 ≤ 100000000 := by
  have h3 := prNl_len o
  have h4 : o.length ≤ (if 0 < n then prNl o else o).length ∧ (if 0 < n then prNl o else o).length ≤ o.length + 1 := by split <;> omega
  unfold prClose
  dsimp only
  generalize (if 0 < n then prNl o else o) = q at h4 ⊢
  refine ⟨?_, ?_, ?_, ?_⟩
  · repeat' split
    all_goals (try simp only [List.length_append, List.length_replicate, List.length_cons, List.length_nil])
    all_goals omega
  · repeat' split
    all_goals (try simp only [List.length_append, List.length_replicate, List.length_cons, List.length_nil])
    all_goals omega
  · split <;> omega
  · split <;> omega
theorem full_skip {s : ByteArray} {o : List Int} (ho : o.length ≤ 1099511627776) {x : FRes} {tabs : Nat} {nl : Int} {i : Nat} (hi : i ≤ s.size) : ∀ d i', i - i' = d → i' ≤ i → (∀ q, i' ≤ q → q < i → bt s (q : Nat) ≤ 32 ∨ bt s (q : Nat) = 44 ∨ bt s (q : Nat) = 58) → Ev (fun k => fullAny k (bytesOf s) o i tabs nl) x → Ev (fun k => fullAny k (bytesOf s) o i' tabs nl) x := by
  intro d
  induction d with
  | zero => intro i' h1 h2 h3 h; obtain rfl : i' = i := by omega
            exact h
  | succ d ih =>
    intro i' h1 h2 h3 h
    refine Ev.step (fun k => ?_) (ih (i' + 1) (by omega) (by omega) (fun q h4 h5 => h3 q (by omega) h5) h)
    rw [fullAny, if_pos ho, if_pos (by rw [bytesOf_length]; omega), if_pos (by rw [rd_bytesOf]; exact h3 i' (Nat.le_refl _) (by omega))]
theorem fullLoop_skip {s : ByteArray} {o : List Int} (ho : 1 ≤ o.length ∧ o.length ≤ 1099511627777) {x : FRes} {tabs : Nat} (ht : tabs ≤ 2147483647) {nl : Int} {obj : Bool} {n i : Nat} (hi : i ≤ s.size) : ∀ d i', i - i' = d → i' ≤ i → (∀ q, i' ≤ q → q < i → bt s (q : Nat) ≤ 32 ∨ (obj = true ∧ bt s (q : Nat) = 44)) → Ev (fun k => fullLoop k (bytesOf s) o i tabs nl n obj) x → Ev (fun k => fullLoop k (bytesOf s) o i' tabs nl n obj) x := by
  intro d
  induction d with
  | zero => intro i' h1 h2 h3 h; obtain rfl : i' = i := by omega
            exact h
  | succ d ih =>
    intro i' h1 h2 h3 h
    refine Ev.step (fun k => ?_) (ih (i' + 1) (by omega) (by omega) (fun q h4 h5 => h3 q (by omega) h5) h)
    rw [fullLoop, if_pos ⟨ho.1, ho.2, ht⟩, if_pos (by rw [bytesOf_length]; omega), rd_bytesOf]
    rcases h3 i' (Nat.le_refl _) (by omega) with h | ⟨h, h'⟩
    · rw [if_pos h]
    · subst h
      rw [h', if_neg (by decide), if_neg (by decide), if_neg (by decide)]
theorem fullLoop_close {s : ByteArray} {o : List Int} (ho : 1 ≤ o.length ∧ o.length ≤ 1099511627777) {tabs : Nat} (ht : tabs ≤ 2147483647) {nl : Int} {obj : Bool} {n i : Nat} (hi : i < s.size) (hc : bt s (i : Nat) = if obj = true then 125 else 93) : Ev (fun k => fullLoop k (bytesOf s) o i tabs nl n obj) ((prClose o tabs n nl obj).1, i + 1, (prClose o tabs n nl obj).2, !obj) := by
  refine Ev.step (f := fun _ => some ((prClose o tabs n nl obj).1, i + 1, (prClose o tabs n nl obj).2, !obj)) (fun k => ?_) (Ev.now _)
  rw [fullLoop, if_pos ⟨ho.1, ho.2, ht⟩, if_pos (by rw [bytesOf_length]; omega), rd_bytesOf, if_pos hc, if_neg (by rw [hc]; split <;> decide)]
/-- An element or a member. -/
def prHead (l o : List Int) (i tabs n : Nat) (obj : Bool) : List Int :=
  if obj = true then (prNl (prSep o n obj) ++ List.replicate (2 * (tabs + 1)) 32) ++ (l.drop i).take (strEnd l i (l.length - (i + 1)) - i) ++ [58, 32] else prNl (prSep o n obj) ++ List.replicate (2 * (tabs + 1)) 32
theorem fullLoop_elem {s : ByteArray} {o : List Int} (ho : 1 ≤ o.length ∧ o.length ≤ 1099511627777) {tabs : Nat} (ht : tabs ≤ 2147483647) {nl : Int} {obj : Bool} {n i : Nat} (hi : i < s.size) (h1 : ¬ bt s (i : Nat) ≤ 32) (h2 : bt s (i : Nat) ≠ if obj = true then 125 else 93) (h3 : obj = false ∨ bt s (i : Nat) = 34) {r : List Int} {j2 : Nat} {nl2 : Int} {ok : Bool} {x : FRes}
    (hv : Ev (fun k => fullAny k (bytesOf s) (prHead (bytesOf s) o i tabs n obj) (if obj = true then strEnd (bytesOf s) i ((bytesOf s).length - (i + 1)) else i) (tabs + 1) ((prSep o n obj).length : Int)) (r, j2, nl2, ok)) (h4 : 1 ≤ j2 ∧ j2 ≤ 4294967295 ∧ n ≤ 4294967295) (hx : Ev (fun k => fullLoop k (bytesOf s) r j2 tabs nl2 (n + 1) obj) x) : Ev (fun k => fullLoop k (bytesOf s) o i tabs nl n obj) x := by
  refine Ev.step (f := fun k => (fullAny k (bytesOf s) (prHead (bytesOf s) o i tabs n obj) (if obj = true then strEnd (bytesOf s) i ((bytesOf s).length - (i + 1)) else i) (tabs + 1) ((prSep o n obj).length : Int)).bind fun r => if 1 ≤ r.2.1 ∧ r.2.1 ≤ 4294967295 ∧ n ≤ 4294967295 then fullLoop k (bytesOf s) r.1 r.2.1 tabs r.2.2.1 (n + 1) obj else none) (fun k => ?_) (Ev.bind hv ?_)
  · rw [fullLoop, if_pos ⟨ho.1, ho.2, ht⟩, if_pos (by rw [bytesOf_length]; omega), rd_bytesOf, if_neg h1, if_neg h2, if_pos h3]
    cases obj <;> rfl
  · refine Ev.congr (fun k => ?_) hx
    rw [if_pos h4]
/-- What the full printing answers on a value, on elements, on members. -/
def FullV (s : ByteArray) (i j : Nat) : Prop := ∀ (o : List Int) (tabs : Nat) (nl : Int), o.length ≤ 10000 * i → tabs ≤ i → 0 ≤ nl → nl ≤ 100000000 → ∃ (r : List Int) (nl2 : Int) (ok : Bool), Ev (fun k => fullAny k (bytesOf s) o i tabs nl) (r, j, nl2, ok) ∧ o.length ≤ r.length ∧ r.length ≤ 10000 * j ∧ 0 ≤ nl2 ∧ nl2 ≤ 100000000
def FullE (s : ByteArray) (i j : Nat) : Prop := ∀ (o : List Int) (i' n tabs : Nat) (nl : Int), i' ≤ i → i' < s.size → ¬ bt s (i' : Nat) ≤ 32 → bt s (i' : Nat) ≠ 93 → (∀ q, i' ≤ q → q < i → bt s (q : Nat) ≤ 32 ∨ bt s (q : Nat) = 44) → n ≤ i' → o.length + 8500 ≤ 10000 * i → 1 ≤ o.length → tabs + 1 ≤ i → 0 ≤ nl → nl ≤ 100000000 → ∃ (r : List Int) (nl2 : Int) (ok : Bool), Ev (fun k => fullLoop k (bytesOf s) o i' tabs nl n false) (r, j, nl2, ok) ∧ o.length ≤ r.length ∧ r.length ≤ 10000 * j ∧ 0 ≤ nl2 ∧ nl2 ≤ 100000000
def FullM (s : ByteArray) (i j : Nat) : Prop := ∀ (o : List Int) (n tabs : Nat) (nl : Int), n ≤ i → o.length + 8500 ≤ 10000 * i → 1 ≤ o.length → tabs + 1 ≤ i → 0 ≤ nl → nl ≤ 100000000 → ∃ (r : List Int) (nl2 : Int) (ok : Bool), Ev (fun k => fullLoop k (bytesOf s) o i tabs nl n true) (r, j, nl2, ok) ∧ o.length ≤ r.length ∧ r.length ≤ 10000 * j ∧ 0 ≤ nl2 ∧ nl2 ≤ 100000000
theorem fullV_leaf {s : ByteArray} (hs : s.size ≤ 4096) {i j : Nat} {p : S40} (h : Val s i j p) (hf : Fol s j) (h1 : bt s (i : Nat) ≠ 91) (h2 : bt s (i : Nat) ≠ 123) : FullV s i j := by
  intro o tabs nl ho ht hn1 hn2
  obtain ⟨hi, hh⟩ := h.head
  obtain ⟨r, hr, a1, a2⟩ := leaf_run h hf h1 h2 o
  have hlt := h.lt
  have hj := h.size
  have hg := hh.gt
  refine ⟨r, nl, true, Ev.step (f := fun _ => some (r, j, nl, true)) (fun k => ?_) (Ev.now _), a1, by omega, hn1, hn2⟩
  rw [fullAny, if_pos (by omega), if_pos (by rw [bytesOf_length]; omega), rd_bytesOf, if_neg (by omega), if_neg h2, if_neg h1, hr]
  rfl
theorem full_obj {s : ByteArray} (hs : s.size ≤ 4096) {i : Nat} (hi : i < s.size) (h : bt s (i : Nat) = 123) {o : List Int} (ho : o.length ≤ 10000 * i) {tabs : Nat} {nl : Int} {x : FRes} (hl : Ev (fun k => fullLoop k (bytesOf s) (o ++ [123]) (i + 1) tabs nl 0 true) x) : Ev (fun k => fullAny k (bytesOf s) o i tabs nl) x := by
  refine Ev.step (f := fun k => fullObj k (bytesOf s) o i tabs nl) (fun k => ?_) (Ev.step (fun k => ?_) hl)
  · rw [fullAny, if_pos (by omega), if_pos (by rw [bytesOf_length]; omega), rd_bytesOf, h, if_neg (by decide), if_pos rfl]
  · rw [fullObj, if_pos (by omega)]
theorem full_arr {s : ByteArray} (hs : s.size ≤ 4096) {i j : Nat} (hi : i < s.size) (h : bt s (i : Nat) = 91) (hfl : FlatA s i j) {o : List Int} (ho : o.length ≤ 10000 * i) {tabs : Nat} {nl : Int} (hn1 : 0 ≤ nl) (hn2 : nl ≤ 100000000)
    (hl : ∀ o' : List Int, o'.length = o.length → ∃ (r : List Int) (nl2 : Int) (ok : Bool), Ev (fun k => fullLoop k (bytesOf s) (o' ++ [91]) (i + 1) tabs nl 0 false) (r, j, nl2, ok) ∧ o.length ≤ r.length ∧ r.length ≤ 10000 * j ∧ 0 ≤ nl2 ∧ nl2 ≤ 100000000) :
    ∃ (r : List Int) (nl2 : Int) (ok : Bool), Ev (fun k => fullAny k (bytesOf s) o i tabs nl) (r, j, nl2, ok) ∧ o.length ≤ r.length ∧ r.length ≤ 10000 * j ∧ 0 ≤ nl2 ∧ nl2 ≤ 100000000 := by
  obtain ⟨r2, j2, ok2, e2, a1, a2, a3, a4, a5⟩ := hfl o ho
  have hs1 : ∀ x : FRes, Ev (fun k => fullArr k (bytesOf s) o i tabs nl) x → Ev (fun k => fullAny k (bytesOf s) o i tabs nl) x := fun x hx => Ev.step (fun k => by
    rw [fullAny, if_pos (by omega), if_pos (by rw [bytesOf_length]; omega), rd_bytesOf, h, if_neg (by decide), if_neg (by decide), if_pos rfl]) hx
  by_cases h3 : 3 < 80 - ((o.length : Int) - nl)
  · have hst : ∀ x : FRes, Ev (fun k => if o.length ≤ r2.length ∧ r2.length ≤ 1099511627777 then (if ok2 = true ∧ (r2.length : Int) - o.length ≤ 80 - ((o.length : Int) - nl) then some (r2, j2, nl, true) else fullLoop k (bytesOf s) (r2.take o.length ++ [91]) (i + 1) tabs nl 0 false) else none) x → Ev (fun k => fullAny k (bytesOf s) o i tabs nl) x := fun x hx =>
      hs1 x (Ev.step (f := fun k => (flatArr k (bytesOf s) o i).bind fun r =>
        if o.length ≤ r.1.length ∧ r.1.length ≤ 1099511627777 then (if r.2.2 = true ∧ (r.1.length : Int) - o.length ≤ 80 - ((o.length : Int) - nl) then some (r.1, r.2.1, nl, true) else fullLoop k (bytesOf s) (r.1.take o.length ++ [91]) (i + 1) tabs nl 0 false) else none) (fun k => by rw [fullArr, if_pos (by omega), if_pos h3]) (Ev.bind e2 hx))
    by_cases hok : ok2 = true ∧ (r2.length : Int) - o.length ≤ 80 - ((o.length : Int) - nl)
    · obtain rfl := a5 hok.1
      exact ⟨r2, nl, true, hst _ (Ev.congr (f := fun _ => some (r2, j2, nl, true)) (fun k => by rw [if_pos (by omega), if_pos hok]) (Ev.now _)), a3, a4, hn1, hn2⟩
    · obtain ⟨r, nl2, ok, e, b1, b2, b3, b4⟩ := hl (r2.take o.length) (by rw [List.length_take]; omega)
      exact ⟨r, nl2, ok, hst _ (Ev.congr (fun k => by rw [if_pos (by omega), if_neg hok]) e), b1, b2, b3, b4⟩
  · obtain ⟨r, nl2, ok, e, b1, b2, b3, b4⟩ := hl o rfl
    exact ⟨r, nl2, ok, hs1 _ (Ev.step (fun k => by rw [fullArr, if_pos (by omega), if_neg h3]) e), b1, b2, b3, b4⟩
theorem prHead_len {s : ByteArray} {o : List Int} {i tabs n : Nat} (ht : tabs ≤ 4096) : o.length ≤ (prHead (bytesOf s) o i tabs n false).length ∧ (prHead (bytesOf s) o i tabs n false).length ≤ o.length + 8300 := by
  have h1 := prSep_len o n false
  have h2 := prNl_len (prSep o n false)
  unfold prHead
  rw [if_neg (by decide), List.length_append, List.length_replicate]
  omega
theorem prHead_len2 {s : ByteArray} {o : List Int} {i a tabs n : Nat} (ht : tabs ≤ 4096) (h : Chars s (i + 1) a) : o.length ≤ (prHead (bytesOf s) o i tabs n true).length ∧ (prHead (bytesOf s) o i tabs n true).length ≤ o.length + 8300 + (a - i) := by
  have h1 := prSep_len o n true
  have h2 := prNl_len (prSep o n true)
  unfold prHead
  rw [if_pos rfl, str_end h]
  simp only [List.length_append, List.length_replicate, List.length_take, List.length_cons, List.length_nil]
  omega
theorem fullV_arr0 {s : ByteArray} (hs : s.size ≤ 4096) {i a : Nat} (hi : i < s.size) (h : bt s (i : Nat) = 91) (hw : Ws s (i + 1) a) (ha : a < s.size) (he : bt s (a : Nat) = 93) : FullV s i (a + 1) := by
  intro o tabs nl ho ht hn1 hn2
  have hle := hw.le
  refine full_arr hs hi h (flatA_arr0 hs hi h hw ha he) ho hn1 hn2 (fun o' ho' => ?_)
  have hlen : (o' ++ [(91 : Int)]).length = o.length + 1 := by simp [ho']
  have hc := prClose_len (o' ++ [91]) tabs 0 nl false hn1 hn2 (by omega)
  exact ⟨_, _, _, fullLoop_skip (by omega) (by omega) (by omega) _ (i + 1) rfl hle (fun q h1 h2 => .inl (hw.all q h1 h2)) (fullLoop_close (by omega) (by omega) ha (by rw [he]; rfl)), by omega, by omega, by omega, by omega⟩
theorem fullV_arr {s : ByteArray} (hs : s.size ≤ 4096) {i a j : Nat} (hi : i < s.size) (h : bt s (i : Nat) = 91) (hw : Ws s (i + 1) a) (ha : a < s.size) (hh : ValHead (bt s (a : Nat))) (hfl : FlatA s i j) (hk : FullE s a j) : FullV s i j := by
  intro o tabs nl ho ht hn1 hn2
  have hle := hw.le
  have hg := hh.gt
  refine full_arr hs hi h hfl ho hn1 hn2 (fun o' ho' => ?_)
  have hlen : (o' ++ [(91 : Int)]).length = o.length + 1 := by simp [ho']
  obtain ⟨r, nl2, ok, e, b1, b2, b3⟩ := hk (o' ++ [91]) a 0 tabs nl (Nat.le_refl _) ha hg.1 hg.2.2.2.1 (fun q h1 h2 => by omega) (by omega) (by omega) (by omega) (by omega) hn1 hn2
  exact ⟨r, nl2, ok, fullLoop_skip (by omega) (by omega) (by omega) _ (i + 1) rfl hle (fun q h1 h2 => .inl (hw.all q h1 h2)) e, by omega, b2, b3⟩
theorem fullV_obj0 {s : ByteArray} (hs : s.size ≤ 4096) {i a : Nat} (hi : i < s.size) (h : bt s (i : Nat) = 123) (hw : Ws s (i + 1) a) (ha : a < s.size) (he : bt s (a : Nat) = 125) : FullV s i (a + 1) := by
  intro o tabs nl ho ht hn1 hn2
  have hle := hw.le
  have hlen : (o ++ [(123 : Int)]).length = o.length + 1 := by simp
  have hc := prClose_len (o ++ [123]) tabs 0 nl true hn1 hn2 (by omega)
  exact ⟨_, _, _, full_obj hs hi h ho (fullLoop_skip (by omega) (by omega) (by omega) _ (i + 1) rfl hle (fun q h1 h2 => .inl (hw.all q h1 h2)) (fullLoop_close (by omega) (by omega) ha (by rw [he]; rfl))), by omega, by omega, by omega, by omega⟩
theorem fullV_obj {s : ByteArray} (hs : s.size ≤ 4096) {i a j : Nat} (hi : i < s.size) (h : bt s (i : Nat) = 123) (hw : Ws s (i + 1) a) (ha : a < s.size) (hk : FullM s a j) : FullV s i j := by
  intro o tabs nl ho ht hn1 hn2
  have hle := hw.le
  have hlen : (o ++ [(123 : Int)]).length = o.length + 1 := by simp
  obtain ⟨r, nl2, ok, e, b1, b2, b3⟩ := hk (o ++ [123]) 0 tabs nl (by omega) (by omega) (by omega) (by omega) hn1 hn2
  exact ⟨r, nl2, ok, full_obj hs hi h ho (fullLoop_skip (by omega) (by omega) (by omega) _ (i + 1) rfl hle (fun q h1 h2 => .inl (hw.all q h1 h2)) e), by omega, b2, b3⟩
theorem fullE_last {s : ByteArray} (hs : s.size ≤ 4096) {i a b : Nat} (hv : FullV s i a) (hlt : i < a) (hi : i ≤ s.size) (w : Ws s a b) (hb : b < s.size) (he : bt s (b : Nat) = 93) : FullE s i (b + 1) := by
  intro o i' n tabs nl h1 h2 h3 h4 h5 h6 h7 h8 h9 hn1 hn2
  have hle := w.le
  have hp := prHead_len (s := s) (o := o) (i := i') (tabs := tabs) (n := n) (by omega)
  have hsep := prSep_len o n false
  obtain ⟨r, nl2, ok, e, a1, a2, a3, a4⟩ := hv (prHead (bytesOf s) o i' tabs n false) (tabs + 1) ((prSep o n false).length : Int) (by omega) (by omega) (by omega) (by omega)
  have e2 := full_skip (by omega) hi _ i' rfl h1 (fun q q1 q2 => by rcases h5 q q1 q2 with h | h; exact .inl h; exact .inr (.inl h)) e
  have hc := prClose_len r tabs (n + 1) nl2 false a3 a4 (by omega)
  exact ⟨_, _, _, fullLoop_elem (by omega) (by omega) h2 h3 (by simpa using h4) (.inl rfl) e2 (by omega) (fullLoop_skip (by omega) (by omega) (by omega) _ a rfl hle (fun q q1 q2 => .inl (w.all q q1 q2)) (fullLoop_close (by omega) (by omega) hb (by rw [he]; rfl))), by omega, by omega, by omega, by omega⟩
theorem fullE_cons {s : ByteArray} (hs : s.size ≤ 4096) {i a b c j : Nat} (hv : FullV s i a) (hlt : i < a) (hi : i ≤ s.size) (w : Ws s a b) (hb : b < s.size) (he : bt s (b : Nat) = 44) (w2 : Ws s (b + 1) c) (hc : c < s.size) (hk : FullE s c j) : FullE s i j := by
  intro o i' n tabs nl h1 h2 h3 h4 h5 h6 h7 h8 h9 hn1 hn2
  have hle := w.le
  have hle2 := w2.le
  have hp := prHead_len (s := s) (o := o) (i := i') (tabs := tabs) (n := n) (by omega)
  have hsep := prSep_len o n false
  obtain ⟨r, nl2, ok, e, a1, a2, a3, a4⟩ := hv (prHead (bytesOf s) o i' tabs n false) (tabs + 1) ((prSep o n false).length : Int) (by omega) (by omega) (by omega) (by omega)
  have e2 := full_skip (by omega) hi _ i' rfl h1 (fun q q1 q2 => by rcases h5 q q1 q2 with h | h; exact .inl h; exact .inr (.inl h)) e
  obtain ⟨r3, nl3, ok3, e3, b1, b2, b3, b4⟩ := hk r b (n + 1) tabs nl2 (by omega) hb (by omega) (by omega) (fun q q1 q2 => by
      by_cases eq : q = b
      · subst eq; exact Or.inr he
      · exact Or.inl (w2.all q (by omega) q2)) (by omega) (by omega) (by omega) (by omega) a3 a4
  exact ⟨r3, nl3, ok3, fullLoop_elem (by omega) (by omega) h2 h3 (by simpa using h4) (.inl rfl) e2 (by omega) (fullLoop_skip (by omega) (by omega) (by omega) _ a rfl hle (fun q q1 q2 => .inl (w.all q q1 q2)) e3), by omega, by omega, by omega, by omega⟩
/-- A member's head: its name, and the value behind it. -/
theorem full_member {s : ByteArray} (hs : s.size ≤ 4096) {i a b c d : Nat} (hi : i < s.size) (hq : bt s (i : Nat) = 34) (nm : Chars s (i + 1) a) (w : Ws s a b) (hb : b < s.size) (hc : bt s (b : Nat) = 58) (w2 : Ws s (b + 1) c) (hcs : c < s.size) (hv : FullV s c d) (hlt : c < d) {o : List Int} {n tabs : Nat} {nl : Int} (h1 : n ≤ i) (h2 : o.length + 8500 ≤ 10000 * i) (h3 : 1 ≤ o.length) (h4 : tabs + 1 ≤ i) (hd : d ≤ s.size) :
    ∃ (r : List Int) (nl2 : Int), o.length ≤ r.length ∧ r.length ≤ 10000 * d ∧ 0 ≤ nl2 ∧ nl2 ≤ 100000000 ∧ ∀ x : FRes, Ev (fun k => fullLoop k (bytesOf s) r d tabs nl2 (n + 1) true) x → Ev (fun k => fullLoop k (bytesOf s) o i tabs nl n true) x := by
  have hle := w.le
  have hle2 := w2.le
  have hna := nm.lt
  have hp := prHead_len2 (s := s) (o := o) (i := i) (tabs := tabs) (n := n) (by omega) nm
  have hsep := prSep_len o n true
  obtain ⟨r, nl2, ok, e, a1, a2, a3, a4⟩ := hv (prHead (bytesOf s) o i tabs n true) (tabs + 1) ((prSep o n true).length : Int) (by omega) (by omega) (by omega) (by omega)
  have e2 := full_skip (by omega) (by omega) _ a rfl (by omega) (fun q q1 q2 => by
      by_cases q3 : q < b
      · exact .inl (w.all q q1 q3)
      · by_cases eq : q = b
        · subst eq; exact .inr (.inr hc)
        · exact .inl (w2.all q (by omega) q2)) e
  exact ⟨r, nl2, by omega, a2, a3, a4, fun x hx => fullLoop_elem (by omega) (by omega) hi (by omega) (by rw [hq]; decide) (.inr hq) (by rw [if_pos rfl, str_end nm]; exact e2) (by omega) hx⟩
theorem fullM_last {s : ByteArray} (hs : s.size ≤ 4096) {i a b c d e : Nat} (hi : i < s.size) (hq : bt s (i : Nat) = 34) (nm : Chars s (i + 1) a) (w : Ws s a b) (hb : b < s.size) (hc : bt s (b : Nat) = 58) (w2 : Ws s (b + 1) c) (hcs : c < s.size) (hv : FullV s c d) (hlt : c < d) (w3 : Ws s d e) (he : e < s.size) (hz : bt s (e : Nat) = 125) : FullM s i (e + 1) := by
  intro o n tabs nl h1 h2 h3 h4 hn1 hn2
  have hle3 := w3.le
  have hna := nm.lt
  have hle := w.le
  have hle2 := w2.le
  obtain ⟨r, nl2, a1, a2, a3, a4, hx⟩ := full_member hs hi hq nm w hb hc w2 hcs hv hlt h1 h2 h3 h4 (nl := nl) (by omega)
  have hcl := prClose_len r tabs (n + 1) nl2 true a3 a4 (by omega)
  exact ⟨_, _, _, hx _ (fullLoop_skip (by omega) (by omega) (by omega) _ d rfl hle3 (fun q q1 q2 => .inl (w3.all q q1 q2)) (fullLoop_close (by omega) (by omega) he (by rw [hz]; rfl))), by omega, by omega, by omega, by omega⟩
theorem fullM_cons {s : ByteArray} (hs : s.size ≤ 4096) {i a b c d e f j : Nat} (hi : i < s.size) (hq : bt s (i : Nat) = 34) (nm : Chars s (i + 1) a) (w : Ws s a b) (hb : b < s.size) (hc : bt s (b : Nat) = 58) (w2 : Ws s (b + 1) c) (hcs : c < s.size) (hv : FullV s c d) (hlt : c < d) (w3 : Ws s d e) (he : e < s.size) (hz : bt s (e : Nat) = 44) (w4 : Ws s (e + 1) f) (hf : f ≤ s.size) (hk : FullM s f j) : FullM s i j := by
  intro o n tabs nl h1 h2 h3 h4 hn1 hn2
  have hle3 := w3.le
  have hle4 := w4.le
  have hna := nm.lt
  have hle := w.le
  have hle2 := w2.le
  obtain ⟨r, nl2, a1, a2, a3, a4, hx⟩ := full_member hs hi hq nm w hb hc w2 hcs hv hlt h1 h2 h3 h4 (nl := nl) (by omega)
  obtain ⟨r3, nl3, ok3, e3, b1, b2, b3⟩ := hk r (n + 1) tabs nl2 (by omega) (by omega) (by omega) (by omega) a3 a4
  exact ⟨r3, nl3, ok3, hx _ (fullLoop_skip (by omega) (by omega) (by omega) _ d rfl (by omega) (fun q q1 q2 => by
      by_cases q3 : q < e
      · exact .inl (w3.all q q1 q3)
      · by_cases eq : q = e
        · subst eq; exact .inr ⟨rfl, hz⟩
        · exact .inl (w4.all q (by omega) q2)) e3), by omega, b2, b3⟩
theorem Mems.head {s : ByteArray} {i j : Nat} {ns : List S84} {ps : List S40} (h : Mems s i j ns ps) : i < s.size := by
  cases h with
  | last hi hq n w hb hc w2 v w3 he hz => exact hi
  | cons hi hq n w hb hc w2 v w3 he hz w4 t => exact hi
mutual
theorem Val.full {s : ByteArray} (hs : s.size ≤ 4096) {i j : Nat} {p : S40} : Val s i j p → Fol s j → FullV s i j
  | .null h, hf => fullV_leaf hs (.null h) hf (by have := h.2 0 (by decide); simp at this; omega) (by have := h.2 0 (by decide); simp at this; omega)
  | .fals h, hf => fullV_leaf hs (.fals h) hf (by have := h.2 0 (by decide); simp at this; omega) (by have := h.2 0 (by decide); simp at this; omega)
  | .tru h, hf => fullV_leaf hs (.tru h) hf (by have := h.2 0 (by decide); simp at this; omega) (by have := h.2 0 (by decide); simp at this; omega)
  | .num h, hf => fullV_leaf hs (.num h) hf (by have := h.head; unfold numHead at this; omega) (by have := h.head; unfold numHead at this; omega)
  | .str h hq t, hf => fullV_leaf hs (.str h hq t) hf (by omega) (by omega)
  | .arr0 h hb hw ha he, hf => fullV_arr0 hs h hb hw ha he
  | .arr h hb hw hk, hf => fullV_arr hs h hb hw (Elems.head hk).1 (Elems.head hk).2 (flatA_arr hs h hb hw (Elems.head hk).1 (Elems.head hk).2 (Elems.flat hs hk)) (Elems.full hs hk)
  | .obj0 h hb hw ha he, hf => fullV_obj0 hs h hb hw ha he
  | .obj h hb hw hk, hf => fullV_obj hs h hb hw (Mems.head hk) (Mems.full hs hk)
theorem Elems.full {s : ByteArray} (hs : s.size ≤ 4096) {i j : Nat} {ps : List S40} : Elems s i j ps → FullE s i j
  | .last v w hb he => fullE_last hs (Val.full hs v (w.fol (fol_of (by omega)))) (Val.lt v) (by have := (Val.head v).1; omega) w hb he
  | .cons v w hb he w2 t => fullE_cons hs (Val.full hs v (w.fol (fol_of (by omega)))) (Val.lt v) (by have := (Val.head v).1; omega) w hb he w2 (Elems.head t).1 (Elems.full hs t)
theorem Mems.full {s : ByteArray} (hs : s.size ≤ 4096) {i j : Nat} {ns : List S84} {ps : List S40} : Mems s i j ns ps → FullM s i j
  | .last hi hq n w hb hc w2 v w3 he hz => fullM_last hs hi hq n w hb hc w2 (Val.head v).1 (Val.full hs v (w3.fol (fol_of (by omega)))) (Val.lt v) w3 he hz
  | .cons hi hq n w hb hc w2 v w3 he hz w4 t => fullM_cons hs hi hq n w hb hc w2 (Val.head v).1 (Val.full hs v (w3.fol (fol_of (by omega)))) (Val.lt v) w3 he hz w4 (by have := Mems.head t; omega) (Mems.full hs t)
end
/-- The full printing of a text of the grammar. -/
theorem full_text {s : ByteArray} (hs : s.size ≤ 4096) {p : S40} (h : Text s p) : ∃ (r : List Int) (j : Nat) (nl2 : Int) (ok : Bool), Ev (fun k => fullAny k (bytesOf s) [] 0 0 0) (r, j, nl2, ok) ∧ r.length ≤ 100000000 := by
  obtain ⟨i, j, w, v, w2⟩ := h
  have hj := v.size
  obtain ⟨r, nl2, ok, e, h1, h2, h3⟩ := Val.full hs v (w2.fol (fun h => by omega)) [] 0 0 (by simp) (by omega) (by omega) (by omega)
  exact ⟨r, j, nl2, ok, full_skip (by simp) (by have := v.head.1; omega) _ 0 rfl (by omega) (fun q q1 q2 => .inl (w.all q q1 q2)) e, by omega⟩
end Go.Proofs.YtookccnmgoocpaaGreatDoor.PTwo
