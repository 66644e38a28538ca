/- Plain facts on the grammar: a value, elements, members end behind where they begin, within the text. -/
import Derived.Test.YtookccnmgoocpaaGreatDoorUgRunsC
namespace Go.Proofs.YtookccnmgoocpaaGreatDoor.PTwo
open Go.RowKit Go.Proofs.YtookccnmgoocpaaGreatDoorW.PrintWords Go.Proofs.YtookccnmgoocpaaGreatDoorW.PrintLast Go.Proofs.YtookccnmgoocpaaGreatDoorW.PrintMore
set_option linter.unusedVariables false
mutual
theorem Val.lt {s : ByteArray} {i j : Nat} {p : S40} : Val s i j p → i < j
  | .null h => by omega
  | .fals h => by omega
  | .tru h => by omega
  | .num h => h.lt
  | .str h hq t => by have := t.lt; omega
  | .arr0 h hb hw ha he => by have := hw.le; omega
  | .arr h hb hw hk => by have := hw.le; have := Elems.lt hk; omega
  | .obj0 h hb hw ha he => by have := hw.le; omega
  | .obj h hb hw hk => by have := hw.le; have := Mems.lt hk; omega
theorem Elems.lt {s : ByteArray} {i j : Nat} {ps : List S40} : Elems s i j ps → i < j
  | .last v w hb he => by have := Val.lt v; have := w.le; omega
  | .cons v w hb he w2 t => by have := Val.lt v; have := w.le; have := w2.le; have := Elems.lt t; omega
theorem Mems.lt {s : ByteArray} {i j : Nat} {ns : List S84} {ps : List S40} : Mems s i j ns ps → i < j
  | .last hi hq n w hb hc w2 v w3 he hz => by have := n.lt; have := w.le; have := w2.le; have := Val.lt v; have := w3.le; omega
  | .cons hi hq n w hb hc w2 v w3 he hz w4 t => by have := n.lt; have := w.le; have := w2.le; have := Val.lt v; have := w3.le; have := w4.le; have := Mems.lt t; omega
end
mutual
theorem Val.size {s : ByteArray} {i j : Nat} {p : S40} : Val s i j p → j ≤ s.size
  | .null h => h.1
  | .fals h => h.1
  | .tru h => h.1
  | .num h => by
    obtain ⟨a, b, c, ⟨h1, h2⟩, h3, h4⟩ := h.parts
    refine h.size ?_
    rcases h1 with rfl | ⟨h, _⟩
    · rcases h2 with h | ⟨h5, h6⟩
      · omega
      · cases h6 with
        | nil => omega
        | cons h _ _ => omega
    · omega
  | .str h hq t => t.size
  | .arr0 h hb hw ha he => by omega
  | .arr h hb hw hk => Elems.size hk
  | .obj0 h hb hw ha he => by omega
  | .obj h hb hw hk => Mems.size hk
theorem Elems.size {s : ByteArray} {i j : Nat} {ps : List S40} : Elems s i j ps → j ≤ s.size
  | .last v w hb he => by omega
  | .cons v w hb he w2 t => Elems.size t
theorem Mems.size {s : ByteArray} {i j : Nat} {ns : List S84} {ps : List S40} : Mems s i j ns ps → j ≤ s.size
  | .last hi hq n w hb hc w2 v w3 he hz => by omega
  | .cons hi hq n w hb hc w2 v w3 he hz w4 t => Mems.size t
end
theorem Elems.len {s : ByteArray} {i j : Nat} {ps : List S40} : Elems s i j ps → ps.length ≤ j - i
  | .last v w hb he => by have := v.lt; have := w.le; simp; omega
  | .cons v w hb he w2 t => by have := v.lt; have := w.le; have := w2.le; have := Elems.len t; have := t.lt; simp; omega
theorem Mems.len {s : ByteArray} {i j : Nat} {ns : List S84} {ps : List S40} : Mems s i j ns ps → ns.length = ps.length ∧ ps.length ≤ j - i
  | .last hi hq n w hb hc w2 v w3 he hz => by have := n.lt; have := w.le; have := w2.le; have := v.lt; have := w3.le; simp; omega
  | .cons hi hq n w hb hc w2 v w3 he hz w4 t => by have := n.lt; have := w.le; have := w2.le; have := v.lt; have := w3.le; have := w4.le; have := Mems.len t; have := t.lt; simp; omega
/-- A value's own place. -/
theorem Val.at {s : ByteArray} {i j : Nat} {p : S40} (h : Val s i j p) : p.f1 = i ∧ p.f2 = j := by cases h <;> exact ⟨rfl, rfl⟩
end Go.Proofs.YtookccnmgoocpaaGreatDoor.PTwo
