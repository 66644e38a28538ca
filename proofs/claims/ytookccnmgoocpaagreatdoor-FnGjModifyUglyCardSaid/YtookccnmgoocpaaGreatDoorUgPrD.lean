/- pretty's full printing of a value: what it answers. -/
import Derived.Test.YtookccnmgoocpaaGreatDoorUgPrC
namespace Go.Proofs.YtookccnmgoocpaaGreatDoor.PTwo
open Go.RowKit Go.Proofs.YtookccnmgoocpaaGreatDoorW.PrintWords Go.Proofs.YtookccnmgoocpaaGreatDoorW.PrintLast Go.Proofs.YtookccnmgoocpaaGreatDoorW.PrintMore
attribute [local go_sem] max2_int min2_int max_two min_two max_three min_three max_four min_four   -- for this text's walks alone
set_option linter.unusedVariables false
set_option linter.unusedSimpArgs false
theorem flat_all : ∀ k, FlatAnyC k ∧ FlatArrC k := by
  intro k
  induction k using Nat.strongRecOn with
  | _ k ih => exact ⟨flatAny_step k (fun m hm => (ih m hm).2), flatArr_step k (fun m hm => (ih m hm).1)⟩
/-- A new line: a blank at the end is written over. -/
def prNl (o : List Int) : List Int := if rd o ((o.length - 1 : Nat) : Int) = 32 then o.set (o.length - 1) 10 else o ++ [10]
/-- The comma ahead of an element or a member. -/
def prSep (o : List Int) (n : Nat) (obj : Bool) : List Int := if 0 < n then (if obj = true then o ++ [44] else o ++ [44, 32]) else o
/-- The end of an object or an array. -/
def prClose (o : List Int) (tabs n : Nat) (nl : Int) (obj : Bool) : List Int × Int :=
  (if rd (if 0 < n then prNl o else o) (((if 0 < n then prNl o else o).length - 1 : Nat) : Int) = (if obj = true then 123 else 91) then (if 0 < n then prNl o else o) ++ [if obj = true then 125 else 93]
    else ((if 0 < n then prNl o else o) ++ List.replicate (2 * tabs) 32) ++ [if obj = true then 125 else 93], if 0 < n then (o.length : Int) else nl)
mutual
def fullAny : Nat → List Int → List Int → Nat → Nat → Int → Option (List Int × Nat × Int × Bool)
  | 0, _, _, _, _, _ => none
  | k + 1, l, o, i, tabs, nl => if o.length ≤ 1099511627776 then (if i < l.length then
      (if rd l (i : Nat) ≤ 32 ∨ rd l (i : Nat) = 44 ∨ rd l (i : Nat) = 58 then fullAny k l o (i + 1) tabs nl
      else if rd l (i : Nat) = 123 then fullObj k l o i tabs nl
      else if rd l (i : Nat) = 91 then fullArr k l o i tabs nl
      else (prLeaf l o i).bind fun r => some (r.1, r.2, nl, true)) else none) else none
def fullObj : Nat → List Int → List Int → Nat → Nat → Int → Option (List Int × Nat × Int × Bool)
  | 0, _, _, _, _, _ => none
  | k + 1, l, o, i, tabs, nl => if o.length ≤ 1099511627776 then fullLoop k l (o ++ [123]) (i + 1) tabs nl 0 true else none
def fullArr : Nat → List Int → List Int → Nat → Nat → Int → Option (List Int × Nat × Int × Bool)
  | 0, _, _, _, _, _ => none
  | k + 1, l, o, i, tabs, nl => if o.length ≤ 1099511627776 ∧ 0 ≤ nl ∧ nl ≤ 1099511627776 then
      (if 3 < 80 - ((o.length : Int) - nl) then (flatArr k l o i).bind fun r =>
        if o.length ≤ r.1.length ∧ r.1.length ≤ 1099511627777 then (if r.2.2 = true ∧ (r.1.length : Int) - o.length ≤ 80 - ((o.length : Int) - nl) then some (r.1, r.2.1, nl, true) else fullLoop k l (r.1.take o.length ++ [91]) (i + 1) tabs nl 0 false) else none
      else fullLoop k l (o ++ [91]) (i + 1) tabs nl 0 false) else none
def fullLoop : Nat → List Int → List Int → Nat → Nat → Int → Nat → Bool → Option (List Int × Nat × Int × Bool)
  | 0, _, _, _, _, _, _, _ => none
  | k + 1, l, o, i, tabs, nl, n, obj => if 1 ≤ o.length ∧ o.length ≤ 1099511627777 ∧ tabs ≤ 2147483647 then (if i < l.length then
      (if rd l (i : Nat) ≤ 32 then fullLoop k l o (i + 1) tabs nl n obj
      else if rd l (i : Nat) = (if obj = true then 125 else 93) then some ((prClose o tabs n nl obj).1, i + 1, (prClose o tabs n nl obj).2, !obj)
      else if obj = false ∨ rd l (i : Nat) = 34 then
        (if obj = true then fullAny k l ((prNl (prSep o n obj) ++ List.replicate (2 * (tabs + 1)) 32) ++ (l.drop i).take (strEnd l i (l.length - (i + 1)) - i) ++ [58, 32]) (strEnd l i (l.length - (i + 1))) (tabs + 1) ((prSep o n obj).length : Int)
        else fullAny k l (prNl (prSep o n obj) ++ List.replicate (2 * (tabs + 1)) 32) i (tabs + 1) ((prSep o n obj).length : Int)).bind fun r =>
          if 1 ≤ r.2.1 ∧ r.2.1 ≤ 4294967295 ∧ n ≤ 4294967295 then fullLoop k l r.1 r.2.1 tabs r.2.2.1 (n + 1) obj else none
      else fullLoop k l o (i + 1) tabs nl n obj) else none) else none
end
/-- A row of one's own that is not empty, opened: its last cell. -/
theorem R_last {w : World} {base : Nat} {v : Value} {xs : List Int} (h : Kd.R (Kd.int .u8) 5 w base (fun _ => True) v xs) (h1 : 0 < xs.length) : ∃ g c m, v = .slice (some ⟨g, 0, none⟩) (m + 1) c ∧ xs.length = m + 1 ∧ w.cell? ⟨g, m, none⟩ = some (.int .u8 (rd xs (m : Nat))) ∧ w.frozen? ⟨g, m, none⟩ = false ∧ base ≤ g := by
  have hw := h
  obtain ⟨_, inner, hown, _⟩ := h
  rcases hown.2 with ⟨rfl, hn⟩ | ⟨g, cap, cur, rfl, hg, hh, _⟩
  · omega
  · have hc := Kd.R_cell (0 : Int) hw ((xs.length - 1 : Nat) : Int) (by omega) (by omega)
    rw [Int.toNat_natCast] at hc
    exact ⟨g, cap, xs.length - 1, by rw [show xs.length - 1 + 1 = xs.length from by omega], by omega, hc.1, hc.2, hg⟩
theorem R_store {w : World} {base g c m : Nat} {xs : List Int} (h : Kd.R (Kd.int .u8) 5 w base (fun _ => True) (.slice (some ⟨g, 0, none⟩) (m + 1) c) xs) (x : Int) : Kd.R (Kd.int .u8) 5 (w.setCell ⟨g, m, none⟩ (.int .u8 x)) base (fun _ => True) (.slice (some ⟨g, 0, none⟩) (m + 1) c) (xs.set m x) := by
  have := Kd.R_putn h (m : Nat) x
  rw [Int.toNat_natCast] at this
  exact this
theorem prNl_yes {o : List Int} {m : Nat} (h : o.length = m + 1) (hb : rd o (m : Nat) = 32) : prNl o = o.set m 10 := by
  unfold prNl
  rw [show o.length - 1 = m from by omega, if_pos hb]
theorem prNl_no {o : List Int} {m : Nat} (h : o.length = m + 1) (hb : ¬ rd o (m : Nat) = 32) : prNl o = o ++ [10] := by
  unfold prNl
  rw [show o.length - 1 = m from by omega, if_neg hb]
theorem prNl_len (o : List Int) : o.length ≤ (prNl o).length ∧ (prNl o).length ≤ o.length + 1 := by unfold prNl; split <;> simp
theorem prSep_len (o : List Int) (n : Nat) (obj : Bool) : o.length ≤ (prSep o n obj).length ∧ (prSep o n obj).length ≤ o.length + 2 := by unfold prSep; split <;> (try split) <;> simp
/-- What the walks say, for so many rounds. -/
def FullAnyC (k : Nat) : Prop := ∀ (u0 : Value) (o : List Int) (A : Option Addr) (c : Nat) (l : List Int) (i tabs : Nat) (nl : Int) (r : List Int) (j : Nat) (nl2 : Int) (ok : Bool) (w0 w : World) (hB : Below w0.heap.size w0 w) (ho0 : Kd.R (Kd.int .u8) 5 w w0.heap.size (fun _ => True) u0 o) (hJ : Kd.C (Kd.int .u8) w0 A l.length l) (hc : l.length ≤ c) (hm : l.length ≤ 2147483647) (hi : i ≤ 4294967295) (h : fullAny k l o i tabs nl = some (r, j, nl2, ok)), Calls Tryz.prog 122 #[u0, .slice A l.length c, .int .i64 (i : Nat), .bool true, .int .i64 80, .string ⟨#[]⟩, .string ⟨#[32, 32]⟩, .bool false, .int .i64 (tabs : Nat), .int .i64 nl, .int .i64 (-1)] w fun e w' => ∃ v : Value, e = .returned (.tuple #[v, .int .i64 (j : Nat), .int .i64 nl2, .bool ok]) ∧ Kd.R (Kd.int .u8) 5 w' w0.heap.size (fun _ => True) v r ∧ Below w0.heap.size w0 w'
def FullArrC (k : Nat) : Prop := ∀ (u0 : Value) (o : List Int) (A : Option Addr) (c : Nat) (l : List Int) (i tabs : Nat) (nl : Int) (r : List Int) (j : Nat) (nl2 : Int) (ok : Bool) (w0 w : World) (hB : Below w0.heap.size w0 w) (ho0 : Kd.R (Kd.int .u8) 5 w w0.heap.size (fun _ => True) u0 o) (hJ : Kd.C (Kd.int .u8) w0 A l.length l) (hc : l.length ≤ c) (hm : l.length ≤ 2147483647) (hi : i ≤ 4294967295) (h : fullArr k l o i tabs nl = some (r, j, nl2, ok)), Calls Tryz.prog 168 #[u0, .slice A l.length c, .int .i64 (i : Nat), .int .u8 91, .int .u8 93, .bool true, .int .i64 80, .string ⟨#[]⟩, .string ⟨#[32, 32]⟩, .bool false, .int .i64 (tabs : Nat), .int .i64 nl, .int .i64 (-1)] w fun e w' => ∃ v : Value, e = .returned (.tuple #[v, .int .i64 (j : Nat), .int .i64 nl2, .bool ok]) ∧ Kd.R (Kd.int .u8) 5 w' w0.heap.size (fun _ => True) v r ∧ Below w0.heap.size w0 w'
def FullObjC (k : Nat) : Prop := ∀ (u0 : Value) (o : List Int) (A : Option Addr) (c : Nat) (l : List Int) (i tabs : Nat) (nl : Int) (r : List Int) (j : Nat) (nl2 : Int) (ok : Bool) (w0 w : World) (hB : Below w0.heap.size w0 w) (ho0 : Kd.R (Kd.int .u8) 5 w w0.heap.size (fun _ => True) u0 o) (hJ : Kd.C (Kd.int .u8) w0 A l.length l) (hc : l.length ≤ c) (hm : l.length ≤ 2147483647) (hi : i ≤ 4294967295) (h : fullObj k l o i tabs nl = some (r, j, nl2, ok)), Calls Tryz.prog 168 #[u0, .slice A l.length c, .int .i64 (i : Nat), .int .u8 123, .int .u8 125, .bool true, .int .i64 80, .string ⟨#[]⟩, .string ⟨#[32, 32]⟩, .bool false, .int .i64 (tabs : Nat), .int .i64 nl, .int .i64 (-1)] w fun e w' => ∃ v : Value, e = .returned (.tuple #[v, .int .i64 (j : Nat), .int .i64 nl2, .bool ok]) ∧ Kd.R (Kd.int .u8) 5 w' w0.heap.size (fun _ => True) v r ∧ Below w0.heap.size w0 w'
end Go.Proofs.YtookccnmgoocpaaGreatDoor.PTwo
