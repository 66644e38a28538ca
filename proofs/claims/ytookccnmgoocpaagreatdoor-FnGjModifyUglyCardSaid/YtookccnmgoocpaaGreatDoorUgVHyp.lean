/- The three readers of a JSON value call each other. What is told of two of them is told under this hypothesis on the third, and then tied. -/
import Derived.Test.YtookccnmgoocpaaGreatDoorUgPTwox1
namespace Go.Proofs.YtookccnmgoocpaaGreatDoor.PTwo
open Go.RowKit Go.Proofs.YtookccnmgoocpaaGreatDoorW.PrintWords Go.Proofs.YtookccnmgoocpaaGreatDoorW.PrintLast Go.Proofs.YtookccnmgoocpaaGreatDoorW.PrintMore
attribute [local go_sem] max2_int min2_int max_two min_two max_three min_three max_four min_four   -- for this text's walks alone
/-- A function of rounds, text and place, and that the reader of a value (function 42) answers as it does. -/
class HasV where
  f : Nat → ByteArray → Int → Option (Int × Int × Int × (List S84) × (List S40) × Bool × ByteArray × Int)
  mono : ∀ a0 a1 k, LeO (f k a0 a1) (f (k + 1) a0 a1)
  calls : ∀ (k : Nat) (g : Nat) (s0_0 : ByteArray) (s0_1 : Int) (r1 : Int) (r2 : Int) (r3 : Int) (r4 : List (S84)) (r5 : List (S40)) (r6 : Bool) (r7 : ByteArray) (r8 : Int) (w0 w : World) (_ : IsS79 w0 w g s0_0 s0_1) (_ : Below w0.heap.size w0 w) (_ : f k s0_0 s0_1 = some (r1, r2, r3, r4, r5, r6, r7, r8)),
    Calls Tryz.prog 42 #[.pointer (some ⟨g, 0, none⟩)] w fun e w' => ∃ v3_ v4_ : Value, e = .returned (.tuple #[.agg #[.int .i64 r1, .int .i64 r2, .int .i64 r3, v3_, v4_], .bool r6]) ∧ Kd.R k84 84 w' w.heap.size (fun _ => True) v3_ r4 ∧ Kd.R k40 40 w' w.heap.size (fun k_ => some k_ ≠ (v3_ : Value).ownBlock) v4_ r5 ∧ IsS79 w0 w' g r7 r8 ∧ Below w0.heap.size w0 w' ∧ KeepBut w w' g none
variable [HasV]
def spec_reader_valueH.f (k : Nat) (a0 : ByteArray) (a1 : Int) : Option (Int × Int × Int × (List S84) × (List S40) × Bool × ByteArray × Int) := HasV.f k a0 a1
theorem spec_reader_valueH.mono : ∀ a0 a1 k, LeO (spec_reader_valueH.f k a0 a1) (spec_reader_valueH.f (k + 1) a0 a1) := HasV.mono
theorem spec_reader_valueH.calls (k : Nat) (g : Nat) (s0_0 : ByteArray) (s0_1 : Int) (r1 : Int) (r2 : Int) (r3 : Int) (r4 : List (S84)) (r5 : List (S40)) (r6 : Bool) (r7 : ByteArray) (r8 : Int) (w0 w : World) (hI : IsS79 w0 w g s0_0 s0_1) (hB : Below w0.heap.size w0 w) (h : spec_reader_valueH.f k s0_0 s0_1 = some (r1, r2, r3, r4, r5, r6, r7, r8)) :
    Calls Tryz.prog 42 #[.pointer (some ⟨g, 0, none⟩)] w fun e w' => ∃ v3_ v4_ : Value, e = .returned (.tuple #[.agg #[.int .i64 r1, .int .i64 r2, .int .i64 r3, v3_, v4_], .bool r6]) ∧ Kd.R k84 84 w' w.heap.size (fun _ => True) v3_ r4 ∧ Kd.R k40 40 w' w.heap.size (fun k_ => some k_ ≠ (v3_ : Value).ownBlock) v4_ r5 ∧ IsS79 w0 w' g r7 r8 ∧ Below w0.heap.size w0 w' ∧ KeepBut w w' g none :=
  HasV.calls k g s0_0 s0_1 r1 r2 r3 r4 r5 r6 r7 r8 w0 w hI hB h
end Go.Proofs.YtookccnmgoocpaaGreatDoor.PTwo
