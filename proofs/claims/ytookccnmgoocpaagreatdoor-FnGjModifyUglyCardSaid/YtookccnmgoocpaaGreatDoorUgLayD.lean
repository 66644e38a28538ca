/- Ugly's function and the reference's Bare answer alike on every text of the grammar. -/
import Derived.Test.YtookccnmgoocpaaGreatDoorUgLayB
import Derived.Test.YtookccnmgoocpaaGreatDoorUgRunsF
import Derived.Test.YtookccnmgoocpaaGreatDoorUgPTwox6
import Derived.Test.YtookccnmgoocpaaGreatDoorUgBare
namespace Go.Proofs.YtookccnmgoocpaaGreatDoor.PTwo
open Go.RowKit Go.Proofs.YtookccnmgoocpaaGreatDoorW.PrintWords Go.Proofs.YtookccnmgoocpaaGreatDoorW.PrintLast Go.Proofs.YtookccnmgoocpaaGreatDoorW.PrintMore
set_option linter.unusedVariables false
/-- A part of the text's bytes. -/
def seg (s : ByteArray) (i j : Nat) : List Int := bytesOf (s.extract i j)
theorem seg_eq (s : ByteArray) (i j : Nat) : seg s i j = ((bytesOf s).drop i).take (j - i) := by
  unfold seg bytesOf
  rw [ByteArray.data_extract, Array.toList_extract, List.extract_eq_take_drop, List.map_take, List.map_drop]
theorem seg_len (s : ByteArray) (i j : Nat) (h : j ≤ s.size) : (seg s i j).length = j - i := by
  rw [seg_eq, List.length_take, List.length_drop, bytesOf_length]; omega
theorem seg_nil (s : ByteArray) (i : Nat) : seg s i i = [] := by rw [seg_eq]; simp
theorem seg_snoc (s : ByteArray) (i q : Nat) (hi : i ≤ q) (hq : q < s.size) : seg s i (q + 1) = seg s i q ++ [bt s (q : Nat)] := by
  rw [seg_eq, seg_eq, show q + 1 - i = (q - i) + 1 from by omega, List.take_succ_eq_append_getElem (by rw [List.length_drop, bytesOf_length]; omega)]
  congr 2
  have e : i + (q - i) = q := by omega
  rw [List.getElem_drop]
  simp only [e]
  rw [← rd_bytesOf]
  unfold rd
  rw [List.getD_eq_getElem?_getD, Int.toNat_natCast, List.getElem?_eq_getElem (by rw [bytesOf_length]; omega)]
  rfl
theorem seg_rd (s : ByteArray) (o : List Int) (i j t : Nat) (hj : j ≤ s.size) (ht : i + t < j) : rd (o ++ seg s i j) ((o.length + t : Nat) : Int) = bt s (i + t : Nat) := by
  rw [← rd_bytesOf]
  unfold rd
  rw [Int.toNat_natCast, Int.toNat_natCast, List.getD_eq_getElem?_getD, List.getD_eq_getElem?_getD, List.getElem?_append_right (by omega), show o.length + t - o.length = t from by omega, seg_eq, List.getElem?_take, if_pos (by omega), List.getElem?_drop]
abbrev UL0 (s : ByteArray) (o : List Int) (i : Nat) (x : List Int) : Prop := Ev (fun k => pretty_ugly.l0 k o (bytesOf s) (i : Nat)) x
abbrev UL1 (s : ByteArray) (o : List Int) (i : Nat) (x : List Int) : Prop := Ev (fun k => pretty_ugly.l1 k o (bytesOf s) (i : Nat)) x
theorem w1 (i : Nat) (h : i ≤ 1000000) : wrap64 ((i : Int) + 1) = ((i + 1 : Nat) : Int) := by unfold wrap64; omega
theorem ugly_blank {s : ByteArray} (hs : s.size ≤ 4096) {o x : List Int} {i : Nat} (hi : i < s.size) (h : bt s (i : Nat) ≤ 32) (hx : UL0 s o (i + 1) x) : UL0 s o i x := by
  refine Ev.step (fun k => ?_) hx
  rw [pretty_ugly.l0, if_pos (by rw [bytesOf_length]; omega), if_pos (by omega), rd_bytesOf, if_neg (by omega), w1 i (by omega)]
theorem ugly_ws {s : ByteArray} (hs : s.size ≤ 4096) {o x : List Int} {i j : Nat} (h : Ws s i j) (hx : UL0 s o j x) : UL0 s o i x := by
  induction h with
  | nil i => exact hx
  | cons h1 hb t ih => exact ugly_blank hs h1 hb.le (ih hx)
theorem ugly_char {s : ByteArray} (hs : s.size ≤ 4096) {o x : List Int} {i : Nat} (hi : i < s.size) (ho : o.length ≤ 1000000) (h : 32 < bt s (i : Nat)) (h2 : bt s (i : Nat) ≠ 34) (hx : UL0 s (o ++ [bt s (i : Nat)]) (i + 1) x) : UL0 s o i x := by
  refine Ev.step (fun k => ?_) hx
  rw [pretty_ugly.l0, if_pos (by rw [bytesOf_length]; omega), if_pos (by omega), rd_bytesOf, if_pos (by omega), if_pos (by omega), Option.bind_some, if_neg h2, w1 i (by omega)]
theorem ugly_seg {s : ByteArray} (hs : s.size ≤ 4096) {x : List Int} {o : List Int} (ho : o.length ≤ 4096) {i j : Nat} (hj : j ≤ s.size) (hc : ∀ q, i ≤ q → q < j → 32 < bt s (q : Nat) ∧ bt s (q : Nat) ≠ 34) (hx : UL0 s (o ++ seg s i j) j x) : ∀ d q, j - q = d → i ≤ q → q ≤ j → UL0 s (o ++ seg s i q) q x := by
  intro d
  induction d with
  | zero => intro q h1 h2 h3; obtain rfl : q = j := by omega
            exact hx
  | succ d ih =>
    intro q h1 h2 h3
    have := hc q h2 (by omega)
    refine ugly_char hs (by omega) (by rw [List.length_append, seg_len _ _ _ (by omega)]; omega) this.1 this.2 ?_
    rw [List.append_assoc, ← seg_snoc s i q h2 (by omega)]
    exact ih (q + 1) (by omega) (by omega) (by omega)
theorem ugly_run {s : ByteArray} (hs : s.size ≤ 4096) {x : List Int} {o : List Int} (ho : o.length ≤ 4096) {i j : Nat} (hij : i ≤ j) (hj : j ≤ s.size) (hc : ∀ q, i ≤ q → q < j → 32 < bt s (q : Nat) ∧ bt s (q : Nat) ≠ 34) (hx : UL0 s (o ++ seg s i j) j x) : UL0 s o i x := by
  have := ugly_seg hs ho hj hc hx _ i rfl (Nat.le_refl _) hij
  rw [seg_nil, List.append_nil] at this
  exact this
theorem ugly_plain {s : ByteArray} (hs : s.size ≤ 4096) {o x : List Int} (ho : o.length ≤ 4096) {i q : Nat} (hi : i ≤ q) (hq : q < s.size) (h : bt s (q : Nat) ≠ 34) (hx : UL1 s (o ++ seg s i (q + 1)) (q + 1) x) : UL1 s (o ++ seg s i q) q x := by
  refine Ev.step (fun k => ?_) hx
  rw [pretty_ugly.l1, if_pos (by rw [bytesOf_length]; omega), if_pos (by omega), rd_bytesOf, if_pos (by rw [List.length_append, seg_len _ _ _ (by omega)]; omega), Option.bind_some, if_neg h, w1 q (by omega), List.append_assoc, ← seg_snoc s i q hi hq]
theorem ugly_l2 {s : ByteArray} (hs : s.size ≤ 4096) {o x : List Int} (ho : o.length ≤ 4096) {i q : Nat} (hi : i < q) (hq : q < s.size) (h34 : bt s (i : Nat) = 34) : ∀ d, d + i < q →
    (((q - i) - (d - bsC (bytesOf s) i d)) % 2 = 0 → UL1 s (o ++ seg s i (q + 1)) (q + 1) x) → (((q - i) - (d - bsC (bytesOf s) i d)) % 2 ≠ 0 → UL0 s (o ++ seg s i (q + 1)) (q + 1) x) →
    Ev (fun k => pretty_ugly.l2 k (o ++ seg s i (q + 1)) (bytesOf s) (q : Nat) ((o.length + d : Nat) : Int)) x := by
  have hlen : (o ++ seg s i (q + 1)).length = o.length + (q - i) + 1 := by rw [List.length_append, seg_len _ _ _ (by omega)]; omega
  have stop : ∀ d, d + i < q → bt s (i + d : Nat) ≠ 92 → (((q - i) - d) % 2 = 0 → UL1 s (o ++ seg s i (q + 1)) (q + 1) x) → (((q - i) - d) % 2 ≠ 0 → UL0 s (o ++ seg s i (q + 1)) (q + 1) x) → Ev (fun k => pretty_ugly.l2 k (o ++ seg s i (q + 1)) (bytesOf s) (q : Nat) ((o.length + d : Nat) : Int)) x := by
    intro d hd h92 hA hB
    have hw : wrap64 (((o.length + d : Nat) : Int) - wrap64 (((o ++ seg s i (q + 1)).length : Int) - 1)) = -(((q - i - d : Nat)) : Int) := by rw [hlen]; unfold wrap64; omega
    have ht : Int.tmod (-(((q - i - d : Nat)) : Int)) 2 = -(((q - i - d) % 2 : Nat) : Int) := by
      rw [Int.neg_tmod, Int.tmod_eq_emod_of_nonneg (by omega)]; omega
    by_cases hp : (q - i - d) % 2 = 0
    · refine Ev.step (fun k => ?_) (hA hp)
      rw [pretty_ugly.l2, if_pos (by omega), if_pos (by rw [hlen]; omega), seg_rd s o i (q + 1) d (by omega) (by omega), if_neg h92, hw, ht, if_pos (by omega), w1 q (by omega)]
    · refine Ev.step (fun k => ?_) (hB hp)
      rw [pretty_ugly.l2, if_pos (by omega), if_pos (by rw [hlen]; omega), seg_rd s o i (q + 1) d (by omega) (by omega), if_neg h92, hw, ht, if_neg (by omega), w1 q (by omega)]
  intro d
  induction d with
  | zero => intro hd hA hB
            exact stop 0 hd (by rw [Nat.add_zero, h34]; decide) (by simpa [bsC] using hA) (by simpa [bsC] using hB)
  | succ d ih =>
    intro hd hA hB
    by_cases h92 : bt s (i + (d + 1) : Nat) = 92
    · have hb : bsC (bytesOf s) i (d + 1) = bsC (bytesOf s) i d + 1 := by rw [bsC, if_pos (by rw [rd_bytesOf]; exact h92)]
      have hle := bsC_le (bytesOf s) i d
      rw [hb, show d + 1 - (bsC (bytesOf s) i d + 1) = d - bsC (bytesOf s) i d from by omega] at hA hB
      refine Ev.step (fun k => ?_) (ih (by omega) hA hB)
      rw [pretty_ugly.l2, if_pos (by omega), if_pos (by rw [hlen]; omega), seg_rd s o i (q + 1) (d + 1) (by omega) (by omega), if_pos h92]
      congr 1
      unfold wrap64; omega
    · have hb : bsC (bytesOf s) i (d + 1) = 0 := by rw [bsC, if_neg (by rw [rd_bytesOf]; exact h92)]
      rw [hb] at hA hB
      exact stop (d + 1) hd h92 hA hB
theorem ugly_quote {s : ByteArray} (hs : s.size ≤ 4096) {o x : List Int} (ho : o.length ≤ 4096) {i q : Nat} (hi : i < q) (hq : q < s.size) (h34 : bt s (i : Nat) = 34) (h : bt s (q : Nat) = 34)
    (hA : bsC (bytesOf s) i (q - 1 - i) % 2 = 1 → UL1 s (o ++ seg s i (q + 1)) (q + 1) x) (hB : bsC (bytesOf s) i (q - 1 - i) % 2 = 0 → UL0 s (o ++ seg s i (q + 1)) (q + 1) x) : UL1 s (o ++ seg s i q) q x := by
  have hle := bsC_le (bytesOf s) i (q - 1 - i)
  have hlen : (o ++ seg s i (q + 1)).length = o.length + (q - i) + 1 := by rw [List.length_append, seg_len _ _ _ (by omega)]; omega
  refine Ev.step (fun k => ?_) (ugly_l2 hs ho hi hq h34 (q - 1 - i) (by omega) (fun h => hA (by omega)) (fun h => hB (by omega)))
  rw [pretty_ugly.l1, if_pos (by rw [bytesOf_length]; omega), if_pos (by omega), rd_bytesOf, if_pos (by rw [List.length_append, seg_len _ _ _ (by omega)]; omega), Option.bind_some, if_pos h, List.append_assoc, ← seg_snoc s i q (by omega) hq]
  congr 1
  rw [hlen]; unfold wrap64; omega
theorem ugly_chars {s : ByteArray} (hs : s.size ≤ 4096) {o x : List Int} (ho : o.length ≤ 4096) {q j : Nat} (h : Chars s q j) : ∀ i, i < q → bt s (i : Nat) = 34 → bsC (bytesOf s) i (q - 1 - i) % 2 = 0 → UL0 s (o ++ seg s i j) j x → UL1 s (o ++ seg s i q) q x := by
  induction h with
  | close h hq =>
    intro i hi h34 hp hx
    exact ugly_quote hs ho hi h h34 hq (fun h => by omega) (fun _ => hx)
  | plain h h1 h2 h3 t ih =>
    intro i hi h34 hp hx
    exact ugly_plain hs ho (by omega) h h1 (ih i (by omega) h34 (by rw [bsC_no _ _ _ hi (by rw [rd_bytesOf]; exact h2)]) hx)
  | @esc q j h h1 h2 t ih =>
    intro i hi h34 hp hx
    have c1 := bsC_yes (bytesOf s) i q hi (by rw [rd_bytesOf]; exact h1)
    have hp2 : bsC (bytesOf s) i (q + 2 - 1 - i) % 2 = 0 := by
      by_cases e : bt s ((q + 1 : Nat) : Int) = 92
      · have c2 := bsC_yes (bytesOf s) i (q + 1) (by omega) (by rw [rd_bytesOf]; exact e)
        rw [show q + 2 - 1 - i = q + 1 + 1 - 1 - i from by omega, c2, c1]; omega
      · have c2 := bsC_no (bytesOf s) i (q + 1) (by omega) (by rw [rd_bytesOf]; exact e)
        rw [show q + 2 - 1 - i = q + 1 + 1 - 1 - i from by omega, c2]
    refine ugly_plain hs ho (by omega) (by omega) (by omega) ?_
    by_cases e : bt s ((q + 1 : Nat) : Int) = 34
    · exact ugly_quote hs ho (by omega) h h34 e (fun _ => ih i (by omega) h34 hp2 hx) (fun h => by omega)
    · exact ugly_plain hs ho (by omega) h e (ih i (by omega) h34 hp2 hx)
  | @uni q j h h1 h2 h3 h4 h5 h6 t ih =>
    intro i hi h34 hp hx
    refine ugly_plain hs ho (by omega) (by omega) (by omega) (ugly_plain hs ho (by omega) (by omega) (by omega) (ugly_plain hs ho (by omega) (by omega) h3.ne.1 (ugly_plain hs ho (by omega) (by omega) h4.ne.1 (ugly_plain hs ho (by omega) (by omega) h5.ne.1 (ugly_plain hs ho (by omega) (by omega) h6.ne.1 ?_)))))
    exact ih i (by omega) h34 (by have := bsC_no (bytesOf s) i (q + 5) (by omega) (by rw [rd_bytesOf]; exact h6.ne.2.1); rw [show q + 6 - 1 - i = q + 5 + 1 - 1 - i from by omega, this]) hx
theorem ugly_str {s : ByteArray} (hs : s.size ≤ 4096) {o x : List Int} (ho : o.length ≤ 4096) {i j : Nat} (hi : i < s.size) (h34 : bt s (i : Nat) = 34) (h : Chars s (i + 1) j) (hx : UL0 s (o ++ seg s i j) j x) : UL0 s o i x := by
  refine Ev.step (fun k => ?_) (ugly_chars hs ho h i (by omega) h34 (by rw [show i + 1 - 1 - i = 0 from by omega]; rfl) hx)
  rw [pretty_ugly.l0, if_pos (by rw [bytesOf_length]; omega), if_pos (by omega), rd_bytesOf, if_pos (by omega), if_pos (by omega), Option.bind_some, if_pos h34, w1 i (by omega), seg_snoc s i i (Nat.le_refl _) hi, seg_nil, List.nil_append]
/-- What ugly and the reference make of a value. -/
def BareV (s : ByteArray) (i j : Nat) (p : S40) : Prop := ∃ B : List Int, B.length ≤ j - i ∧ (∀ o x, o.length ≤ i → UL0 s (o ++ B) j x → UL0 s o i x) ∧ (∀ o : List Int, o.length ≤ i → Ev (fun k => spec_bareTo.f k o s p) (o ++ B))
/-- The text ahead of an element or a member. -/
def comma (m : Nat) (o : List Int) : List Int := if 0 < m then o ++ [44] else o
def BareE (s : ByteArray) (i j : Nat) (ps : List S40) : Prop := ∃ B : List Int, B.length ≤ j - i ∧ (∀ o x, o.length ≤ i → UL0 s (o ++ B) j x → UL0 s o i x) ∧ (∀ (p : S40) (m : Nat) (o : List Int), p.f0 = 5 → p.f4.length ≤ 4096 → p.f4.drop m = ps → (comma m o).length ≤ i → Ev2 (fun n k => bareL (spec_bareTo.f k) n o s p (m : Nat)) (comma m o ++ B))
def BareM (s : ByteArray) (i j : Nat) (ns : List S84) (ps : List S40) : Prop := ∃ B : List Int, B.length ≤ j - i ∧ (∀ o x, o.length ≤ i → UL0 s (o ++ B) j x → UL0 s o i x) ∧ (∀ (p : S40) (m : Nat) (o : List Int), p.f0 = 6 → p.f4.length ≤ 4096 → p.f3.drop m = ns → p.f4.drop m = ps → (comma m o).length ≤ i → Ev2 (fun n k => bareL (spec_bareTo.f k) n o s p (m : Nat)) (comma m o ++ B))
theorem bare_leaf {s : ByteArray} (hs : s.size ≤ 4096) {o : List Int} (ho : o.length ≤ 4096) {p : S40} {i j : Nat} (h1 : p.f1 = i) (h2 : p.f2 = j) (h4 : p.f4 = []) (h0 : p.f0 ≠ 5 ∧ p.f0 ≠ 6) (hij : i ≤ j) (hj : j ≤ s.size) : Ev (fun k => spec_bareTo.f k o s p) (o ++ seg s i j) := by
  refine Ev.step (f := fun _ => some (o ++ seg s i j)) (fun k => ?_) (Ev.now _)
  rw [spec_bareTo.f, if_pos (by omega), if_pos (by omega), h4, if_pos (by simp), if_neg (by omega), bareCut, h1, h2, if_pos (by omega), if_pos (by omega), if_pos (by omega), Int.toNat_natCast, Int.toNat_natCast]
  rfl
theorem bareV_run {s : ByteArray} (hs : s.size ≤ 4096) {p : S40} {i j : Nat} (h1 : p.f1 = i) (h2 : p.f2 = j) (h4 : p.f4 = []) (h0 : p.f0 ≠ 5 ∧ p.f0 ≠ 6) (hij : i ≤ j) (hj : j ≤ s.size) (hc : ∀ q, i ≤ q → q < j → 32 < bt s (q : Nat) ∧ bt s (q : Nat) ≠ 34) : BareV s i j p :=
  ⟨seg s i j, by rw [seg_len _ _ _ hj]; omega, fun o x ho hx => ugly_run hs (by omega) hij hj hc hx, fun o ho => bare_leaf hs (by omega) h1 h2 h4 h0 hij hj⟩
theorem bareV_str {s : ByteArray} (hs : s.size ≤ 4096) {i j : Nat} (hi : i < s.size) (hq : bt s (i : Nat) = 34) (t : Chars s (i + 1) j) : BareV s i j ⟨4, i, j, [], []⟩ :=
  ⟨seg s i j, by rw [seg_len _ _ _ t.size]; omega, fun o x ho hx => ugly_str hs (by omega) hi hq t hx, fun o ho => bare_leaf hs (by omega) rfl rfl rfl (by dsimp only; omega) (by have := t.lt; omega) t.size⟩
theorem word_all {s : ByteArray} {i : Nat} {w : List Int} (h : Word s i w) (hw : ∀ m, m < w.length → 32 < w.getD m 0 ∧ w.getD m 0 ≠ 34) : ∀ q, i ≤ q → q < i + w.length → 32 < bt s (q : Nat) ∧ bt s (q : Nat) ≠ 34 := by
  intro q h1 h2
  have := h.2 (q - i) (by omega)
  have h3 := hw (q - i) (by omega)
  rw [show i + (q - i) = q from by omega] at this
  rw [this]; exact h3
theorem NumChar.pl {c : Int} (h : NumChar c) : 32 < c ∧ c ≠ 34 := by unfold NumChar IsDigit at h; omega
theorem Ev2.diag {α : Type} {G : Nat → Nat → Option α} {r : α} (h : Ev2 G r) : Ev (fun k => G k k) r := let ⟨N, h⟩ := h; ⟨N, fun k hk => h k k hk hk⟩
theorem bareL_end {s : ByteArray} {p : S40} {m : Nat} {o : List Int} (ho : o.length ≤ 8192) (hm : p.f4.length ≤ m) : Ev2 (fun n k => bareL (spec_bareTo.f k) n o s p (m : Nat)) (o ++ [if p.f0 = 6 then 125 else 93]) := by
  refine Ev2.level (F := fun _ _ => some (o ++ [if p.f0 = 6 then 125 else 93])) (fun n k => ?_) (Ev2.now _)
  rw [bareL, if_pos (by omega), if_pos (by omega), if_neg (by omega)]
theorem bareL_elem {s : ByteArray} {p : S40} {m : Nat} {o : List Int} (ho : o.length ≤ 8192) (h0 : p.f0 = 5) {x : S40} {xs : List S40} (hd : p.f4.drop m = x :: xs) {r r2 : List Int} (hv : Ev (fun k => spec_bareTo.f k (comma m o) s x) r) (ht : Ev2 (fun n k => bareL (spec_bareTo.f k) n r s p ((m + 1 : Nat) : Int)) r2) : Ev2 (fun n k => bareL (spec_bareTo.f k) n o s p (m : Nat)) r2 := by
  obtain ⟨e1, e2, e3, e4⟩ := rd40_drop hd
  refine Ev2.level (F := fun n k => (spec_bareTo.f k (comma m o) s x).bind fun o3 => bareL (spec_bareTo.f k) n o3 s p ((m + 1 : Nat) : Int)) (fun n k => ?_) (Ev2.bind (Ev2.of hv) ht)
  rw [bareL, if_pos (by omega), if_pos (by omega), if_pos (by omega), if_neg (by omega), e1]
  unfold comma
  by_cases hm : 0 < m
  · rw [if_pos hm, if_pos (by omega)]; rfl
  · rw [if_neg hm, if_neg (by omega)]; rfl
theorem bareL_mem {s : ByteArray} {p : S40} {m : Nat} {o : List Int} (ho : o.length ≤ 8192) (h0 : p.f0 = 6) {i a : Nat} (hia : i ≤ a) (ha : a ≤ s.size) {ns : List S84} (hn : p.f3.drop m = ⟨i, a⟩ :: ns) {x : S40} {xs : List S40} (hd : p.f4.drop m = x :: xs) {r r2 : List Int} (hv : Ev (fun k => spec_bareTo.f k ((comma m o ++ seg s i a) ++ [58]) s x) r) (ht : Ev2 (fun n k => bareL (spec_bareTo.f k) n r s p ((m + 1 : Nat) : Int)) r2) : Ev2 (fun n k => bareL (spec_bareTo.f k) n o s p (m : Nat)) r2 := by
  obtain ⟨e1, e2, e3, e4⟩ := rd40_drop hd
  obtain ⟨f1, f2, f3, f4⟩ := rd84_drop hn
  refine Ev2.level (F := fun n k => (spec_bareTo.f k ((comma m o ++ seg s i a) ++ [58]) s x).bind fun o3 => bareL (spec_bareTo.f k) n o3 s p ((m + 1 : Nat) : Int)) (fun n k => ?_) (Ev2.bind (Ev2.of hv) ht)
  rw [bareL, if_pos (by omega), if_pos (by omega), if_pos (by omega), if_pos h0, if_pos (by omega), e1, f1]
  dsimp only
  rw [bareCut, if_pos (by omega), if_pos (by omega), if_pos (by omega), Int.toNat_natCast, Int.toNat_natCast, Option.bind_some]
  unfold comma
  by_cases hm : 0 < m
  · rw [if_pos hm, if_pos (by omega)]; rfl
  · rw [if_neg hm, if_neg (by omega)]; rfl
theorem bareV_open {s : ByteArray} (hs : s.size ≤ 4096) {p : S40} (h0 : p.f0 = 5 ∨ p.f0 = 6) (hp : p.f4.length ≤ 4096) {o : List Int} (ho : o.length ≤ 4096) {r : List Int} (h : Ev2 (fun n k => bareL (spec_bareTo.f k) n (o ++ [if p.f0 = 6 then 123 else 91]) s p ((0 : Nat) : Int)) r) : Ev (fun k => spec_bareTo.f k o s p) r := by
  refine Ev.step (fun k => ?_) h.diag
  rw [spec_bareTo.f, if_pos (by omega), if_pos (by omega), if_pos (by omega), if_pos h0]
  rfl
theorem ugly_one {s : ByteArray} (hs : s.size ≤ 4096) {o x : List Int} {i : Nat} {c : Int} (hi : i < s.size) (ho : o.length ≤ 1000000) (hc : bt s (i : Nat) = c) (h : 32 < c) (h2 : c ≠ 34) (hx : UL0 s (o ++ [c]) (i + 1) x) : UL0 s o i x := by
  subst hc; exact ugly_char hs hi ho h h2 hx
theorem bareV_empty {s : ByteArray} (hs : s.size ≤ 4096) {i a : Nat} {c1 c2 kd : Int} (hi : i < s.size) (h : bt s (i : Nat) = c1) (hw : Ws s (i + 1) a) (ha : a < s.size) (he : bt s (a : Nat) = c2) (hc : (c1 = 91 ∧ c2 = 93 ∧ kd = 5) ∨ (c1 = 123 ∧ c2 = 125 ∧ kd = 6)) : BareV s i (a + 1) ⟨kd, i, (a + 1 : Nat), [], []⟩ := by
  have hle := hw.le
  refine ⟨[c1, c2], by simp <;> omega, fun o x ho hx => ?_, fun o ho => ?_⟩
  · refine ugly_one hs hi (by omega) h (by omega) (by omega) (ugly_ws hs hw (ugly_one hs ha (by simp <;> omega) he (by omega) (by omega) ?_))
    rw [List.append_assoc]; exact hx
  · have := bareL_end (s := s) (p := ⟨kd, i, (a + 1 : Nat), [], []⟩) (m := 0) (o := o ++ [c1]) (by simp <;> omega) (by simp)
    rcases hc with ⟨rfl, rfl, rfl⟩ | ⟨rfl, rfl, rfl⟩
    · exact bareV_open hs (.inl rfl) (by simp) (by omega) (by simpa using this)
    · exact bareV_open hs (.inr rfl) (by simp) (by omega) (by simpa using this)
theorem bareV_arr {s : ByteArray} (hs : s.size ≤ 4096) {i a j : Nat} {ps : List S40} (hi : i < s.size) (h : bt s (i : Nat) = 91) (hw : Ws s (i + 1) a) (haj : a < j) (hj : j ≤ s.size) (hps : ps.length ≤ 4096) (hk : BareE s a j ps) : BareV s i j ⟨5, i, j, [], ps⟩ := by
  have hle := hw.le
  obtain ⟨B, hB, hu, hb⟩ := hk
  refine ⟨91 :: B, by simp <;> omega, fun o x ho hx => ?_, fun o ho => ?_⟩
  · refine ugly_one hs hi (by omega) h (by omega) (by omega) (ugly_ws hs hw (hu _ x (by simp <;> omega) ?_))
    rw [List.append_assoc]; exact hx
  · have := hb ⟨5, i, j, [], ps⟩ 0 (o ++ [91]) rfl hps rfl (by unfold comma; simp; omega)
    exact bareV_open hs (.inl rfl) hps (by omega) (by simpa [comma] using this)
theorem bareV_obj {s : ByteArray} (hs : s.size ≤ 4096) {i a j : Nat} {ns : List S84} {ps : List S40} (hi : i < s.size) (h : bt s (i : Nat) = 123) (hw : Ws s (i + 1) a) (haj : a < j) (hj : j ≤ s.size) (hps : ps.length ≤ 4096) (hk : BareM s a j ns ps) : BareV s i j ⟨6, i, j, ns, ps⟩ := by
  have hle := hw.le
  obtain ⟨B, hB, hu, hb⟩ := hk
  refine ⟨123 :: B, by simp <;> omega, fun o x ho hx => ?_, fun o ho => ?_⟩
  · refine ugly_one hs hi (by omega) h (by omega) (by omega) (ugly_ws hs hw (hu _ x (by simp <;> omega) ?_))
    rw [List.append_assoc]; exact hx
  · have := hb ⟨6, i, j, ns, ps⟩ 0 (o ++ [123]) rfl hps rfl rfl (by unfold comma; simp; omega)
    exact bareV_open hs (.inr rfl) hps (by omega) (by simpa [comma] using this)
theorem comma_len (m : Nat) (o : List Int) : o.length ≤ (comma m o).length ∧ (comma m o).length ≤ o.length + 1 := by unfold comma; split <;> simp
theorem bareE_last {s : ByteArray} (hs : s.size ≤ 4096) {i a b : Nat} {x : S40} (hv : BareV s i a x) (hia : i < a) (w : Ws s a b) (hb : b < s.size) (he : bt s (b : Nat) = 93) : BareE s i (b + 1) [x] := by
  have hle := w.le
  obtain ⟨B, hB, hu, hr⟩ := hv
  refine ⟨B ++ [93], by simp <;> omega, fun o x ho hx => ?_, fun p m o h0 hp hd ho => ?_⟩
  · refine hu o x ho (ugly_ws hs w (ugly_one hs hb (by simp <;> omega) he (by omega) (by omega) ?_))
    rw [List.append_assoc]; exact hx
  · have hc := comma_len m o
    obtain ⟨e1, e2, e3, e4⟩ := rd40_drop hd
    have hend := bareL_end (s := s) (p := p) (m := m + 1) (o := comma m o ++ B) (by simp <;> omega) (by rw [List.drop_eq_nil_iff] at e3; exact e3)
    rw [h0, if_neg (by decide), List.append_assoc] at hend
    exact bareL_elem (by omega) h0 hd (hr _ ho) hend
theorem bareE_cons {s : ByteArray} (hs : s.size ≤ 4096) {i a b c j : Nat} {x : S40} {xs : List S40} (hv : BareV s i a x) (hia : i < a) (w : Ws s a b) (hb : b < s.size) (he : bt s (b : Nat) = 44) (w2 : Ws s (b + 1) c) (hcj : c < j) (hj : j ≤ s.size) (hk : BareE s c j xs) : BareE s i j (x :: xs) := by
  have hle := w.le
  have hle2 := w2.le
  obtain ⟨B, hB, hu, hr⟩ := hv
  obtain ⟨B2, hB2, hu2, hr2⟩ := hk
  refine ⟨B ++ ([44] ++ B2), by simp <;> omega, fun o x ho hx => ?_, fun p m o h0 hp hd ho => ?_⟩
  · refine hu o x ho (ugly_ws hs w (ugly_one hs hb (by simp <;> omega) he (by omega) (by omega) (ugly_ws hs w2 (hu2 _ x (by simp <;> omega) ?_))))
    rw [List.append_assoc, List.append_assoc]; exact hx
  · have hc := comma_len m o
    obtain ⟨e1, e2, e3, e4⟩ := rd40_drop hd
    have hend := hr2 p (m + 1) (comma m o ++ B) h0 hp e3 (by rw [comma, if_pos (by omega)]; simp; omega)
    rw [show comma (m + 1) (comma m o ++ B) = comma m o ++ B ++ [44] from by rw [comma, if_pos (by omega)], List.append_assoc, List.append_assoc] at hend
    exact bareL_elem (by omega) h0 hd (hr _ ho) hend
theorem bareM_last {s : ByteArray} (hs : s.size ≤ 4096) {i a b c d e : Nat} {x : S40} (hi : i < s.size) (hq : bt s (i : Nat) = 34) (nm : Chars s (i + 1) a) (w : Ws s a b) (hb : b < s.size) (hc : bt s (b : Nat) = 58) (w2 : Ws s (b + 1) c) (hv : BareV s c d x) (hcd : c < d) (w3 : Ws s d e) (he : e < s.size) (hz : bt s (e : Nat) = 125) : BareM s i (e + 1) [⟨i, a⟩] [x] := by
  have hle := w.le
  have hle2 := w2.le
  have hle3 := w3.le
  have hna := nm.lt
  have hsl := seg_len s i a nm.size
  obtain ⟨B, hB, hu, hr⟩ := hv
  refine ⟨seg s i a ++ ([58] ++ (B ++ [125])), by simp [hsl] <;> omega, fun o x ho hx => ?_, fun p m o h0 hp hn hd ho => ?_⟩
  · refine ugly_str hs (by omega) hi hq nm (ugly_ws hs w (ugly_one hs hb (by simp [hsl] <;> omega) hc (by omega) (by omega) (ugly_ws hs w2 (hu _ x (by simp [hsl] <;> omega) (ugly_ws hs w3 (ugly_one hs he (by simp [hsl] <;> omega) hz (by omega) (by omega) ?_))))))
    simpa [List.append_assoc] using hx
  · have hcm := comma_len m o
    obtain ⟨e1, e2, e3, e4⟩ := rd40_drop hd
    have hend := bareL_end (s := s) (p := p) (m := m + 1) (o := ((comma m o ++ seg s i a) ++ [58]) ++ B) (by simp [hsl] <;> omega) (by rw [List.drop_eq_nil_iff] at e3; exact e3)
    rw [h0, if_pos rfl] at hend
    have := bareL_mem (by omega) h0 (by omega) nm.size hn hd (hr _ (by simp [hsl] <;> omega)) hend
    simpa [List.append_assoc] using this
theorem bareM_cons {s : ByteArray} (hs : s.size ≤ 4096) {i a b c d e f j : Nat} {x : S40} {ns : List S84} {xs : List S40} (hi : i < s.size) (hq : bt s (i : Nat) = 34) (nm : Chars s (i + 1) a) (w : Ws s a b) (hb : b < s.size) (hc : bt s (b : Nat) = 58) (w2 : Ws s (b + 1) c) (hv : BareV s c d x) (hcd : c < d) (w3 : Ws s d e) (he : e < s.size) (hz : bt s (e : Nat) = 44) (w4 : Ws s (e + 1) f) (hfj : f < j) (hj : j ≤ s.size) (hk : BareM s f j ns xs) : BareM s i j (⟨i, a⟩ :: ns) (x :: xs) := by
  have hle := w.le
  have hle2 := w2.le
  have hle3 := w3.le
  have hle4 := w4.le
  have hna := nm.lt
  have hsl := seg_len s i a nm.size
  obtain ⟨B, hB, hu, hr⟩ := hv
  obtain ⟨B2, hB2, hu2, hr2⟩ := hk
  refine ⟨seg s i a ++ ([58] ++ (B ++ ([44] ++ B2))), by simp [hsl] <;> omega, fun o x ho hx => ?_, fun p m o h0 hp hn hd ho => ?_⟩
  · refine ugly_str hs (by omega) hi hq nm (ugly_ws hs w (ugly_one hs hb (by simp [hsl] <;> omega) hc (by omega) (by omega) (ugly_ws hs w2 (hu _ x (by simp [hsl] <;> omega) (ugly_ws hs w3 (ugly_one hs he (by simp [hsl] <;> omega) hz (by omega) (by omega) (ugly_ws hs w4 (hu2 _ x (by simp [hsl] <;> omega) ?_))))))))
    simpa [List.append_assoc] using hx
  · have hcm := comma_len m o
    obtain ⟨e1, e2, e3, e4⟩ := rd40_drop hd
    obtain ⟨f1, f2, f3, f4⟩ := rd84_drop hn
    have hend := hr2 p (m + 1) (((comma m o ++ seg s i a) ++ [58]) ++ B) h0 hp f3 e3 (by rw [comma, if_pos (by omega)]; simp [hsl]; omega)
    have := bareL_mem (by omega) h0 (by omega) nm.size hn hd (hr _ (by simp [hsl] <;> omega)) hend
    rw [show comma (m + 1) (((comma m o ++ seg s i a) ++ [58]) ++ B) = ((comma m o ++ seg s i a) ++ [58]) ++ B ++ [44] from by rw [comma, if_pos (by omega)]] at this
    simpa [List.append_assoc] using this
mutual
theorem Val.bare {s : ByteArray} (hs : s.size ≤ 4096) {i j : Nat} {p : S40} : Val s i j p → BareV s i j p
  | .null h => bareV_run hs rfl rfl rfl (by dsimp only; omega) (by omega) h.1 (word_all h (by decide))
  | .fals h => bareV_run hs rfl rfl rfl (by dsimp only; omega) (by omega) h.1 (word_all h (by decide))
  | .tru h => bareV_run hs rfl rfl rfl (by dsimp only; omega) (by omega) h.1 (word_all h (by decide))
  | .num h => bareV_run hs rfl rfl rfl (by dsimp only; omega) (by have := h.lt; omega) (Val.size (.num h)) (fun q h1 h2 => (h.all q h1 h2).pl)
  | .str h hq t => bareV_str hs h hq t
  | .arr0 h hb hw ha he => bareV_empty hs h hb hw ha he (by omega)
  | .arr h hb hw hk => bareV_arr hs h hb hw (Elems.lt hk) (Elems.size hk) (by have := Elems.len hk; have := Elems.size hk; omega) (Elems.bare hs hk)
  | .obj0 h hb hw ha he => bareV_empty hs h hb hw ha he (by omega)
  | .obj h hb hw hk => bareV_obj hs h hb hw (Mems.lt hk) (Mems.size hk) (by have := (Mems.len hk).2; have := Mems.size hk; omega) (Mems.bare hs hk)
theorem Elems.bare {s : ByteArray} (hs : s.size ≤ 4096) {i j : Nat} {ps : List S40} : Elems s i j ps → BareE s i j ps
  | .last v w hb he => bareE_last hs (Val.bare hs v) (Val.lt v) w hb he
  | .cons v w hb he w2 t => bareE_cons hs (Val.bare hs v) (Val.lt v) w hb he w2 (Elems.lt t) (Elems.size t) (Elems.bare hs t)
theorem Mems.bare {s : ByteArray} (hs : s.size ≤ 4096) {i j : Nat} {ns : List S84} {ps : List S40} : Mems s i j ns ps → BareM s i j ns ps
  | .last hi hq n w hb hc w2 v w3 he hz => bareM_last hs hi hq n w hb hc w2 (Val.bare hs v) (Val.lt v) w3 he hz
  | .cons hi hq n w hb hc w2 v w3 he hz w4 t => bareM_cons hs hi hq n w hb hc w2 (Val.bare hs v) (Val.lt v) w3 he hz w4 (Mems.lt t) (Mems.size t) (Mems.bare hs t)
end
theorem bare_text {s : ByteArray} (hs : s.size ≤ 4096) {p : S40} (h : Text s p) : ∃ B : List Int, B.length ≤ 4096 ∧ Ev (fun k => pretty_ugly.f k [] (bytesOf s)) B ∧ Ev (fun k => spec_bareTo.f k [] s p) B := by
  obtain ⟨i, j, w, v, w2⟩ := h
  have hj := v.size
  obtain ⟨B, hB, hu, hr⟩ := Val.bare hs v
  refine ⟨B, by omega, ?_, hr [] (by simp)⟩
  have hend : UL0 s B s.size B := Ev.step (f := fun _ => some B) (fun k => by rw [pretty_ugly.l0, if_neg (by rw [bytesOf_length]; omega)]) (Ev.now _)
  have := ugly_ws hs w (hu [] B (by simp) (ugly_ws hs w2 hend))
  refine Ev.congr (fun k => ?_) this
  unfold pretty_ugly.f
  rw [if_pos (by simp)]
  rfl
end Go.Proofs.YtookccnmgoocpaaGreatDoor.PTwo
