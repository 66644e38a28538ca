/- What functions of the program answer, and their walks: printed by a program out of the translation, and cut to what this claim reaches. -/
import Derived.Test.YtookccnmgoocpaaGreatDoorUgPTwox0
namespace Go.Proofs.YtookccnmgoocpaaGreatDoor.PTwo
open Go.RowKit Go.Proofs.YtookccnmgoocpaaGreatDoorW.PrintWords Go.Proofs.YtookccnmgoocpaaGreatDoorW.PrintLast Go.Proofs.YtookccnmgoocpaaGreatDoorW.PrintMore
attribute [local go_sem] max2_int min2_int max_two min_two max_three min_three max_four min_four   -- for this text's walks alone
set_option linter.unusedVariables false
set_option linter.unusedSimpArgs false
def gjson_bytesString.f (l0 : List Int) : Option (ByteArray) := some (strOfNums l0)
set_option maxHeartbeats 8000000 in
set_option maxRecDepth 100000 in
theorem gjson_bytesString.calls (A0 : Option Addr) (c0 : Nat) (l0 : List Int) (r : ByteArray) (w : World) (hr0 : Kd.C (Kd.int .u8) w A0 l0.length l0) (hc0 : l0.length ≤ c0) (h : gjson_bytesString.f l0 = some r) :
    Calls Tryz.prog 143 #[.slice A0 l0.length c0] w fun e w' => e = .returned (.string r) ∧ Drawn0 w w' := by
  have HR0 := Aside0.mk hr0
  have HC0 := Aside0.mk hc0
  clear hr0 hc0
  have H : (some (strOfNums l0)) = some r := h
  clear h
  obtain rfl := Option.some.inj H
  have hcv2 := Kd.C_string (P := Tryz.prog) (A := A0) (c := c0) Tryz.underlying74 Tryz.underlying5 Tryz.underlying9 HR0.out
  go_enter Tryz.func143, Tryz.ntmps143
  go_wp2
  go_ret
  exact ⟨by first | rfl | (simp; done) | (simp [*]; done), by repeat (first | exact Drawn0.refl _ | apply Drawn0.step)⟩
end Go.Proofs.YtookccnmgoocpaaGreatDoor.PTwo
