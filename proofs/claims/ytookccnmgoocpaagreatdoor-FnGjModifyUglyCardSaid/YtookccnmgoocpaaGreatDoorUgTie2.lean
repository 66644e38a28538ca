/- The reader of a value, tied: the hypothesis of the texts on the three readers that call each other is met by so many levels. -/
import Derived.Test.YtookccnmgoocpaaGreatDoorUgPTwox12
namespace Go.Proofs.YtookccnmgoocpaaGreatDoor.PTwo
open Go.RowKit Go.Proofs.YtookccnmgoocpaaGreatDoorW.PrintWords Go.Proofs.YtookccnmgoocpaaGreatDoorW.PrintLast Go.Proofs.YtookccnmgoocpaaGreatDoorW.PrintMore
attribute [local go_sem] max2_int min2_int max_two min_two max_three min_three max_four min_four   -- for this text's walks alone
set_option linter.unusedVariables false
set_option linter.unusedSimpArgs false
/-- The reader of values that are nested fewer than n deep, with what is proved of it. -/
@[reducible] noncomputable def vAt : Nat → HasV
  | 0 => { f := fun _ _ _ => none, mono := fun _ _ _ _ h => h, calls := fun _ _ _ _ _ _ _ _ _ _ _ _ _ _ _ _ h => by cases h }
  | n + 1 => { f := @spec_reader_value.f (vAt n), mono := @spec_reader_value.mono (vAt n), calls := @spec_reader_value.calls (vAt n) }
/-- The reader of a value: so many rounds, and as many levels. -/
noncomputable def spec_reader_valueT.f (k : Nat) (a0 : ByteArray) (a1 : Int) : Option (Int × Int × Int × (List S84) × (List S40) × Bool × ByteArray × Int) := (vAt k).f k a0 a1
theorem spec_reader_valueT.calls (k : Nat) (g : Nat) (s0_0 : ByteArray) (s0_1 : Int) (r1 : Int) (r2 : Int) (r3 : Int) (r4 : List (S84)) (r5 : List (S40)) (r6 : Bool) (r7 : ByteArray) (r8 : Int) (w0 w : World) (hI : IsS79 w0 w g s0_0 s0_1) (hB : Below w0.heap.size w0 w) (h : spec_reader_valueT.f k s0_0 s0_1 = some (r1, r2, r3, r4, r5, r6, r7, r8)) :
    Calls Tryz.prog 42 #[.pointer (some ⟨g, 0, none⟩)] w fun e w' => ∃ v3_ v4_ : Value, e = .returned (.tuple #[.agg #[.int .i64 r1, .int .i64 r2, .int .i64 r3, v3_, v4_], .bool r6]) ∧ Kd.R k84 84 w' w.heap.size (fun _ => True) v3_ r4 ∧ Kd.R k40 40 w' w.heap.size (fun k_ => some k_ ≠ (v3_ : Value).ownBlock) v4_ r5 ∧ IsS79 w0 w' g r7 r8 ∧ Below w0.heap.size w0 w' ∧ KeepBut w w' g none :=
  (vAt k).calls k g s0_0 s0_1 r1 r2 r3 r4 r5 r6 r7 r8 w0 w hI hB h
end Go.Proofs.YtookccnmgoocpaaGreatDoor.PTwo
