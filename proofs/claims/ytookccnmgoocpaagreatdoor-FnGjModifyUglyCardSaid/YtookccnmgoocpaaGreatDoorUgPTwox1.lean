/- What functions of the program answer, and their walks: printed by a program out of the translation, and cut to what this claim reaches. -/
import Derived.Test.YtookccnmgoocpaaGreatDoorUgPTwox0
namespace Go.Proofs.YtookccnmgoocpaaGreatDoor.PTwo
open Go.RowKit Go.Proofs.YtookccnmgoocpaaGreatDoorW.PrintWords Go.Proofs.YtookccnmgoocpaaGreatDoorW.PrintLast Go.Proofs.YtookccnmgoocpaaGreatDoorW.PrintMore
attribute [local go_sem] max2_int min2_int max_two min_two max_three min_three max_four min_four   -- for this text's walks alone
set_option linter.unusedVariables false
set_option linter.unusedSimpArgs false
/-- A state of type 79 at block g of W; what its slices lead to came in by w0. -/
def IsS79 (w0 W : World) (g : Nat) (f0 : ByteArray) (f1 : Int) : Prop := W.heap[g]? = some (.cells #[.string f0, .int .i64 f1] 79 (0, 0)) ∧ w0.heap.size ≤ g
theorem IsS79.grown {w0 W : World} {g : Nat} {f0 : ByteArray} {f1 : Int} {W1 : World} {row : Option Nat} (h : IsS79 w0 W g f0 f1) (hw : W.grownBy W1 row) (hne : some g ≠ row) : IsS79 w0 W1 g f0 f1 := by
  obtain ⟨hb, hg⟩ := h
  exact ⟨blk_grown hb hw hne, hg⟩
theorem IsS79.kept {w0 W : World} {g : Nat} {f0 : ByteArray} {f1 : Int} {W1 : World} {S : Nat → Prop} (h : IsS79 w0 W g f0 f1) (hk : Kept W W1 S) (hne : ¬ S g) : IsS79 w0 W1 g f0 f1 := by
  obtain ⟨hb, hg⟩ := h
  exact ⟨blk_kept hb hk hne, hg⟩
theorem IsS79.below {w0 W : World} {g : Nat} {f0 : ByteArray} {f1 : Int} {W1 : World} (h : IsS79 w0 W g f0 f1) (hw : Below W.heap.size W W1) : IsS79 w0 W1 g f0 f1 := h.grown (grown_of_below hw none) (by simp)
theorem IsS79.alloc {w0 W : World} {g : Nat} {f0 : ByteArray} {f1 : Int} (h : IsS79 w0 W g f0 f1) (o : Obj) : IsS79 w0 (W.alloc o) g f0 f1 := h.below (below_alloc (Below.refl _ _) o)
theorem IsS79.drewN {w0 W : World} {g : Nat} {f0 : ByteArray} {f1 : Int} (h : IsS79 w0 W g f0 f1) (m : Nat) : IsS79 w0 (W.drewN m) g f0 f1 := h
theorem IsS79.drew {w0 W : World} {g : Nat} {f0 : ByteArray} {f1 : Int} (h : IsS79 w0 W g f0 f1) : IsS79 w0 W.drew g f0 f1 := h
theorem IsS79.apart {w0 W : World} {g : Nat} {f0 : ByteArray} {f1 : Int} {α : Type} {d : Kd α} {e : Nat} {base : Nat} {ok : Nat → Prop} {v : Value} {xs : List α} (h : IsS79 w0 W g f0 f1) (ho : d.R e W base ok v xs) (ht : ∀ q, q ∈ e :: d.E → q ≠ 79) : d.R e W base (fun k => ok k ∧ k ≠ g) v xs := by
  obtain ⟨hb, hg⟩ := h
  exact Kd.R_types ho hb ht
theorem IsS79.own_ne {w0 W : World} {g : Nat} {f0 : ByteArray} {f1 : Int} {α : Type} {d : Kd α} {e : Nat} {base : Nat} {ok : Nat → Prop} {v : Value} {xs : List α} (h : IsS79 w0 W g f0 f1) (ho : d.R e W base ok v xs) (ht : e ≠ 79) : some g ≠ v.ownBlock := by
  obtain ⟨hb, hg⟩ := h
  exact Kd.R_ne ho hb ht
theorem IsS79.lt {w0 W : World} {g : Nat} {f0 : ByteArray} {f1 : Int} (h : IsS79 w0 W g f0 f1) : g < W.heap.size := by
  obtain ⟨hb, hg⟩ := h
  exact blk_lt hb
theorem IsS79.ge {w0 W : World} {g : Nat} {f0 : ByteArray} {f1 : Int} (h : IsS79 w0 W g f0 f1) : w0.heap.size ≤ g := by
  obtain ⟨hb, hg⟩ := h
  exact hg
theorem IsS79.far {w0 W : World} {g : Nat} {f0 : ByteArray} {f1 : Int} {p : Addr} (h : IsS79 w0 W g f0 f1) (hne : g ≠ p.block) (u : Value) : IsS79 w0 (W.setCell p u) g f0 f1 := by
  obtain ⟨hb, hg⟩ := h
  exact ⟨blk_far hb hne u, hg⟩
theorem cellS79_0 {W : World} {g : Nat} {f0 : ByteArray} {f1 : Int} (h : W.heap[g]? = some (.cells #[.string f0, .int .i64 f1] 79 (0, 0))) : W.cell? ⟨g, 0, none⟩ = some (.string f0) := (blk_cell h 0).trans rfl
theorem IsS79.set_0 {w0 W : World} {g : Nat} {f0 : ByteArray} {f1 : Int} (h : IsS79 w0 W g f0 f1) (x : ByteArray) : IsS79 w0 (W.setCell ⟨g, 0, none⟩ (.string x)) g x f1 := by
  obtain ⟨hb, hg⟩ := h
  exact ⟨by simpa using blk_set hb 0 (.string x), hg⟩
theorem cellS79_1 {W : World} {g : Nat} {f0 : ByteArray} {f1 : Int} (h : W.heap[g]? = some (.cells #[.string f0, .int .i64 f1] 79 (0, 0))) : W.cell? ⟨g, 1, none⟩ = some (.int .i64 f1) := (blk_cell h 1).trans rfl
theorem IsS79.set_1 {w0 W : World} {g : Nat} {f0 : ByteArray} {f1 : Int} (h : IsS79 w0 W g f0 f1) (x : Int) : IsS79 w0 (W.setCell ⟨g, 1, none⟩ (.int .i64 x)) g f0 x := by
  obtain ⟨hb, hg⟩ := h
  exact ⟨by simpa using blk_set hb 1 (.int .i64 x), hg⟩
theorem IsS79.new (w0 W : World) (f0 : ByteArray) (f1 : Int) (hB : Below w0.heap.size w0 W) : IsS79 w0 (W.alloc (.cells #[.string f0, .int .i64 f1] 79)) W.heap.size f0 f1 := ⟨by simpa using heap_alloc_new W _, hB.size⟩
end Go.Proofs.YtookccnmgoocpaaGreatDoor.PTwo
