/- What functions of the program answer, and their walks: printed by a program out of the translation, and cut to what this claim reaches. -/
import Derived.Test.YtookccnmgoocpaaGreatDoorUgPTwox0
namespace Go.Proofs.YtookccnmgoocpaaGreatDoor.PTwo
open Go.RowKit Go.Proofs.YtookccnmgoocpaaGreatDoorW.PrintWords Go.Proofs.YtookccnmgoocpaaGreatDoorW.PrintLast Go.Proofs.YtookccnmgoocpaaGreatDoorW.PrintMore
attribute [local go_sem] max2_int min2_int max_two min_two max_three min_three max_four min_four   -- for this text's walks alone
set_option linter.unusedVariables false
set_option linter.unusedSimpArgs false
def pretty_isNaNOrInf.f (l0 : List Int) : Option (Bool) := if 0 < (l0.length : Int) then (if (rd l0 0) = 105 then (some true) else (if (rd l0 0) = 73 then (some true) else (if (rd l0 0) = 43 then (some true) else (if (rd l0 0) = 78 then (some true) else (if (rd l0 0) = 110 then (if (l0.length : Int) > 1 then (if 1 < (l0.length : Int) then (some ((rd l0 1) != 117)) else (none)) else (some false)) else (some false)))))) else (none)
set_option maxHeartbeats 8000000 in
set_option maxRecDepth 100000 in
theorem pretty_isNaNOrInf.calls (A0 : Option Addr) (c0 : Nat) (l0 : List Int) (r : Bool) (w : World) (hr0 : Kd.C (Kd.int .u8) w A0 l0.length l0) (hc0 : l0.length ≤ c0) (h : pretty_isNaNOrInf.f l0 = some r) :
    Calls Tryz.prog 166 #[.slice A0 l0.length c0] w fun e w' => e = .returned (.bool r) ∧ Drawn0 w w' := by
  have HR0 := Aside0.mk hr0
  have HC0 := Aside0.mk hc0
  clear hr0 hc0
  have H : (if 0 < (l0.length : Int) then (if (rd l0 0) = 105 then (some true) else (if (rd l0 0) = 73 then (some true) else (if (rd l0 0) = 43 then (some true) else (if (rd l0 0) = 78 then (some true) else (if (rd l0 0) = 110 then (if (l0.length : Int) > 1 then (if 1 < (l0.length : Int) then (some ((rd l0 1) != 117)) else (none)) else (some false)) else (some false)))))) else (none)) = some r := h
  clear h
  by_cases c2 : 0 < (l0.length : Int)
  · rw [if_pos c2] at H
    have c2b0 : decide (0 < (l0.length : Int)) = true := decide_eq_true c2
    have c2b1 : decide (0 < l0.length) = true := decide_eq_true (by omega)
    clear c2
    by_cases c3 : (rd l0 0) = 105
    · rw [if_pos c3] at H
      have c3b0 : ((rd l0 0) == 105) = true := beq_iff_eq.mpr c3
      have c3b1 : ((rd l0 0) != 105) = false := bne_eq_false_iff_eq.mpr c3
      clear c3
      obtain rfl := Option.some.inj H
      have p124 : 0 ≤ (0 : Int) := (by omega)
      have q124 : 0 < (l0.length : Int) := of_decide_eq_true (by first | (with_reducible assumption) | assumption)
      obtain ⟨ad124, e124, hx124_0⟩ := Kd.at_int HR0.out 0 p124 q124
      cases e124
      have qi124 : (0 < l0.length) = True := eq_true (by omega)
      (try rw [show ((0 : Int)).toNat = 0 from rfl] at hx124_0)
      (try rw [Addr.add_zero'] at hx124_0)
      replace p124 := eq_true p124
      replace q124 := eq_true q124
      go_enter Tryz.func166, Tryz.ntmps166
      go_wp2
      go_ret
      exact ⟨by first | rfl | (simp; done) | (simp [*]; done), by repeat (first | exact Drawn0.refl _ | apply Drawn0.step)⟩
    · rw [if_neg c3] at H
      have c3b0 : ((rd l0 0) == 105) = false := beq_eq_false_iff_ne.mpr c3
      have c3b1 : ((rd l0 0) != 105) = true := bne_iff_ne.mpr c3
      by_cases c4 : (rd l0 0) = 73
      · rw [if_pos c4] at H
        have c4b0 : ((rd l0 0) == 73) = true := beq_iff_eq.mpr c4
        have c4b1 : ((rd l0 0) != 73) = false := bne_eq_false_iff_eq.mpr c4
        clear c4
        obtain rfl := Option.some.inj H
        have p124 : 0 ≤ (0 : Int) := (by omega)
        have q124 : 0 < (l0.length : Int) := of_decide_eq_true (by first | (with_reducible assumption) | assumption)
        obtain ⟨ad124, e124, hx124_0⟩ := Kd.at_int HR0.out 0 p124 q124
        cases e124
        have qi124 : (0 < l0.length) = True := eq_true (by omega)
        (try rw [show ((0 : Int)).toNat = 0 from rfl] at hx124_0)
        (try rw [Addr.add_zero'] at hx124_0)
        replace p124 := eq_true p124
        replace q124 := eq_true q124
        have p125 : 0 ≤ (0 : Int) := (by omega)
        have q125 : 0 < (l0.length : Int) := of_decide_eq_true (by first | (with_reducible assumption) | assumption)
        obtain ⟨ad125, e125, hx125_0⟩ := Kd.at_int HR0.out 0 p125 q125
        obtain rfl : ad124 = ad125 := (by injection e125)
        have qi125 : (0 < l0.length) = True := eq_true (by omega)
        (try rw [show ((0 : Int)).toNat = 0 from rfl] at hx125_0)
        (try rw [Addr.add_zero'] at hx125_0)
        replace p125 := eq_true p125
        replace q125 := eq_true q125
        go_enter Tryz.func166, Tryz.ntmps166
        go_wp2
        go_ret
        exact ⟨by first | rfl | (simp; done) | (simp [*]; done), by repeat (first | exact Drawn0.refl _ | apply Drawn0.step)⟩
      · rw [if_neg c4] at H
        have c4b0 : ((rd l0 0) == 73) = false := beq_eq_false_iff_ne.mpr c4
        have c4b1 : ((rd l0 0) != 73) = true := bne_iff_ne.mpr c4
        by_cases c5 : (rd l0 0) = 43
        · rw [if_pos c5] at H
          have c5b0 : ((rd l0 0) == 43) = true := beq_iff_eq.mpr c5
          have c5b1 : ((rd l0 0) != 43) = false := bne_eq_false_iff_eq.mpr c5
          clear c5
          obtain rfl := Option.some.inj H
          have p124 : 0 ≤ (0 : Int) := (by omega)
          have q124 : 0 < (l0.length : Int) := of_decide_eq_true (by first | (with_reducible assumption) | assumption)
          obtain ⟨ad124, e124, hx124_0⟩ := Kd.at_int HR0.out 0 p124 q124
          cases e124
          have qi124 : (0 < l0.length) = True := eq_true (by omega)
          (try rw [show ((0 : Int)).toNat = 0 from rfl] at hx124_0)
          (try rw [Addr.add_zero'] at hx124_0)
          replace p124 := eq_true p124
          replace q124 := eq_true q124
          have p125 : 0 ≤ (0 : Int) := (by omega)
          have q125 : 0 < (l0.length : Int) := of_decide_eq_true (by first | (with_reducible assumption) | assumption)
          obtain ⟨ad125, e125, hx125_0⟩ := Kd.at_int HR0.out 0 p125 q125
          obtain rfl : ad124 = ad125 := (by injection e125)
          have qi125 : (0 < l0.length) = True := eq_true (by omega)
          (try rw [show ((0 : Int)).toNat = 0 from rfl] at hx125_0)
          (try rw [Addr.add_zero'] at hx125_0)
          replace p125 := eq_true p125
          replace q125 := eq_true q125
          have p126 : 0 ≤ (0 : Int) := (by omega)
          have q126 : 0 < (l0.length : Int) := of_decide_eq_true (by first | (with_reducible assumption) | assumption)
          obtain ⟨ad126, e126, hx126_0⟩ := Kd.at_int HR0.out 0 p126 q126
          obtain rfl : ad124 = ad126 := (by injection e126)
          have qi126 : (0 < l0.length) = True := eq_true (by omega)
          (try rw [show ((0 : Int)).toNat = 0 from rfl] at hx126_0)
          (try rw [Addr.add_zero'] at hx126_0)
          replace p126 := eq_true p126
          replace q126 := eq_true q126
          go_enter Tryz.func166, Tryz.ntmps166
          go_wp2
          go_ret
          exact ⟨by first | rfl | (simp; done) | (simp [*]; done), by repeat (first | exact Drawn0.refl _ | apply Drawn0.step)⟩
        · rw [if_neg c5] at H
          have c5b0 : ((rd l0 0) == 43) = false := beq_eq_false_iff_ne.mpr c5
          have c5b1 : ((rd l0 0) != 43) = true := bne_iff_ne.mpr c5
          by_cases c6 : (rd l0 0) = 78
          · rw [if_pos c6] at H
            have c6b0 : ((rd l0 0) == 78) = true := beq_iff_eq.mpr c6
            have c6b1 : ((rd l0 0) != 78) = false := bne_eq_false_iff_eq.mpr c6
            clear c6
            obtain rfl := Option.some.inj H
            have p124 : 0 ≤ (0 : Int) := (by omega)
            have q124 : 0 < (l0.length : Int) := of_decide_eq_true (by first | (with_reducible assumption) | assumption)
            obtain ⟨ad124, e124, hx124_0⟩ := Kd.at_int HR0.out 0 p124 q124
            cases e124
            have qi124 : (0 < l0.length) = True := eq_true (by omega)
            (try rw [show ((0 : Int)).toNat = 0 from rfl] at hx124_0)
            (try rw [Addr.add_zero'] at hx124_0)
            replace p124 := eq_true p124
            replace q124 := eq_true q124
            have p125 : 0 ≤ (0 : Int) := (by omega)
            have q125 : 0 < (l0.length : Int) := of_decide_eq_true (by first | (with_reducible assumption) | assumption)
            obtain ⟨ad125, e125, hx125_0⟩ := Kd.at_int HR0.out 0 p125 q125
            obtain rfl : ad124 = ad125 := (by injection e125)
            have qi125 : (0 < l0.length) = True := eq_true (by omega)
            (try rw [show ((0 : Int)).toNat = 0 from rfl] at hx125_0)
            (try rw [Addr.add_zero'] at hx125_0)
            replace p125 := eq_true p125
            replace q125 := eq_true q125
            have p126 : 0 ≤ (0 : Int) := (by omega)
            have q126 : 0 < (l0.length : Int) := of_decide_eq_true (by first | (with_reducible assumption) | assumption)
            obtain ⟨ad126, e126, hx126_0⟩ := Kd.at_int HR0.out 0 p126 q126
            obtain rfl : ad124 = ad126 := (by injection e126)
            have qi126 : (0 < l0.length) = True := eq_true (by omega)
            (try rw [show ((0 : Int)).toNat = 0 from rfl] at hx126_0)
            (try rw [Addr.add_zero'] at hx126_0)
            replace p126 := eq_true p126
            replace q126 := eq_true q126
            have p127 : 0 ≤ (0 : Int) := (by omega)
            have q127 : 0 < (l0.length : Int) := of_decide_eq_true (by first | (with_reducible assumption) | assumption)
            obtain ⟨ad127, e127, hx127_0⟩ := Kd.at_int HR0.out 0 p127 q127
            obtain rfl : ad124 = ad127 := (by injection e127)
            have qi127 : (0 < l0.length) = True := eq_true (by omega)
            (try rw [show ((0 : Int)).toNat = 0 from rfl] at hx127_0)
            (try rw [Addr.add_zero'] at hx127_0)
            replace p127 := eq_true p127
            replace q127 := eq_true q127
            go_enter Tryz.func166, Tryz.ntmps166
            go_wp2
            go_ret
            exact ⟨by first | rfl | (simp; done) | (simp [*]; done), by repeat (first | exact Drawn0.refl _ | apply Drawn0.step)⟩
          · rw [if_neg c6] at H
            have c6b0 : ((rd l0 0) == 78) = false := beq_eq_false_iff_ne.mpr c6
            have c6b1 : ((rd l0 0) != 78) = true := bne_iff_ne.mpr c6
            by_cases c7 : (rd l0 0) = 110
            · rw [if_pos c7] at H
              have c7b0 : ((rd l0 0) == 110) = true := beq_iff_eq.mpr c7
              have c7b1 : ((rd l0 0) != 110) = false := bne_eq_false_iff_eq.mpr c7
              clear c7
              by_cases c8 : (l0.length : Int) > 1
              · rw [if_pos c8] at H
                have c8b0 : decide (1 < (l0.length : Int)) = true := decide_eq_true c8
                have c8b1 : decide (1 < l0.length) = true := decide_eq_true (by omega)
                clear c8
                by_cases c9 : 1 < (l0.length : Int)
                · rw [if_pos c9] at H
                  have c9b0 : decide (1 < (l0.length : Int)) = true := decide_eq_true c9
                  have c9b1 : decide (1 < l0.length) = true := decide_eq_true (by omega)
                  clear c9
                  obtain rfl := Option.some.inj H
                  have p124 : 0 ≤ (0 : Int) := (by omega)
                  have q124 : 0 < (l0.length : Int) := of_decide_eq_true (by first | (with_reducible assumption) | assumption)
                  obtain ⟨ad124, e124, hx124_0⟩ := Kd.at_int HR0.out 0 p124 q124
                  cases e124
                  have qi124 : (0 < l0.length) = True := eq_true (by omega)
                  (try rw [show ((0 : Int)).toNat = 0 from rfl] at hx124_0)
                  (try rw [Addr.add_zero'] at hx124_0)
                  replace p124 := eq_true p124
                  replace q124 := eq_true q124
                  have p125 : 0 ≤ (0 : Int) := (by omega)
                  have q125 : 0 < (l0.length : Int) := of_decide_eq_true (by first | (with_reducible assumption) | assumption)
                  obtain ⟨ad125, e125, hx125_0⟩ := Kd.at_int HR0.out 0 p125 q125
                  obtain rfl : ad124 = ad125 := (by injection e125)
                  have qi125 : (0 < l0.length) = True := eq_true (by omega)
                  (try rw [show ((0 : Int)).toNat = 0 from rfl] at hx125_0)
                  (try rw [Addr.add_zero'] at hx125_0)
                  replace p125 := eq_true p125
                  replace q125 := eq_true q125
                  have p126 : 0 ≤ (0 : Int) := (by omega)
                  have q126 : 0 < (l0.length : Int) := of_decide_eq_true (by first | (with_reducible assumption) | assumption)
                  obtain ⟨ad126, e126, hx126_0⟩ := Kd.at_int HR0.out 0 p126 q126
                  obtain rfl : ad124 = ad126 := (by injection e126)
                  have qi126 : (0 < l0.length) = True := eq_true (by omega)
                  (try rw [show ((0 : Int)).toNat = 0 from rfl] at hx126_0)
                  (try rw [Addr.add_zero'] at hx126_0)
                  replace p126 := eq_true p126
                  replace q126 := eq_true q126
                  have p127 : 0 ≤ (0 : Int) := (by omega)
                  have q127 : 0 < (l0.length : Int) := of_decide_eq_true (by first | (with_reducible assumption) | assumption)
                  obtain ⟨ad127, e127, hx127_0⟩ := Kd.at_int HR0.out 0 p127 q127
                  obtain rfl : ad124 = ad127 := (by injection e127)
                  have qi127 : (0 < l0.length) = True := eq_true (by omega)
                  (try rw [show ((0 : Int)).toNat = 0 from rfl] at hx127_0)
                  (try rw [Addr.add_zero'] at hx127_0)
                  replace p127 := eq_true p127
                  replace q127 := eq_true q127
                  have p128 : 0 ≤ (0 : Int) := (by omega)
                  have q128 : 0 < (l0.length : Int) := of_decide_eq_true (by first | (with_reducible assumption) | assumption)
                  obtain ⟨ad128, e128, hx128_0⟩ := Kd.at_int HR0.out 0 p128 q128
                  obtain rfl : ad124 = ad128 := (by injection e128)
                  have qi128 : (0 < l0.length) = True := eq_true (by omega)
                  (try rw [show ((0 : Int)).toNat = 0 from rfl] at hx128_0)
                  (try rw [Addr.add_zero'] at hx128_0)
                  replace p128 := eq_true p128
                  replace q128 := eq_true q128
                  have p129 : 0 ≤ (1 : Int) := (by omega)
                  have q129 : 1 < (l0.length : Int) := of_decide_eq_true (by first | (with_reducible assumption) | assumption)
                  obtain ⟨ad129, e129, hx129_0⟩ := Kd.at_int HR0.out 1 p129 q129
                  obtain rfl : ad124 = ad129 := (by injection e129)
                  (try simp only [show (1 : Int).toNat = 1 from rfl, Nat.reduceMul, Nat.reduceEqDiff, Go.Addr.add, ↓reduceIte] at hx129_0)
                  have qi129 : (1 < l0.length) = True := eq_true (by omega)
                  (try rw [show ((1 : Int)).toNat = 1 from rfl] at hx129_0)
                  replace p129 := eq_true p129
                  replace q129 := eq_true q129
                  go_enter Tryz.func166, Tryz.ntmps166
                  go_wp2
                  go_ret
                  exact ⟨by first | rfl | (simp; done) | (simp [*]; done), by repeat (first | exact Drawn0.refl _ | apply Drawn0.step)⟩
                · rw [if_neg c9] at H
                  exact absurd H (by simp)
              · rw [if_neg c8] at H
                have c8b0 : decide (1 < (l0.length : Int)) = false := decide_eq_false c8
                have c8b1 : decide (1 < l0.length) = false := decide_eq_false (by omega)
                clear c8
                obtain rfl := Option.some.inj H
                have p124 : 0 ≤ (0 : Int) := (by omega)
                have q124 : 0 < (l0.length : Int) := of_decide_eq_true (by first | (with_reducible assumption) | assumption)
                obtain ⟨ad124, e124, hx124_0⟩ := Kd.at_int HR0.out 0 p124 q124
                cases e124
                have qi124 : (0 < l0.length) = True := eq_true (by omega)
                (try rw [show ((0 : Int)).toNat = 0 from rfl] at hx124_0)
                (try rw [Addr.add_zero'] at hx124_0)
                replace p124 := eq_true p124
                replace q124 := eq_true q124
                have p125 : 0 ≤ (0 : Int) := (by omega)
                have q125 : 0 < (l0.length : Int) := of_decide_eq_true (by first | (with_reducible assumption) | assumption)
                obtain ⟨ad125, e125, hx125_0⟩ := Kd.at_int HR0.out 0 p125 q125
                obtain rfl : ad124 = ad125 := (by injection e125)
                have qi125 : (0 < l0.length) = True := eq_true (by omega)
                (try rw [show ((0 : Int)).toNat = 0 from rfl] at hx125_0)
                (try rw [Addr.add_zero'] at hx125_0)
                replace p125 := eq_true p125
                replace q125 := eq_true q125
                have p126 : 0 ≤ (0 : Int) := (by omega)
                have q126 : 0 < (l0.length : Int) := of_decide_eq_true (by first | (with_reducible assumption) | assumption)
                obtain ⟨ad126, e126, hx126_0⟩ := Kd.at_int HR0.out 0 p126 q126
                obtain rfl : ad124 = ad126 := (by injection e126)
                have qi126 : (0 < l0.length) = True := eq_true (by omega)
                (try rw [show ((0 : Int)).toNat = 0 from rfl] at hx126_0)
                (try rw [Addr.add_zero'] at hx126_0)
                replace p126 := eq_true p126
                replace q126 := eq_true q126
                have p127 : 0 ≤ (0 : Int) := (by omega)
                have q127 : 0 < (l0.length : Int) := of_decide_eq_true (by first | (with_reducible assumption) | assumption)
                obtain ⟨ad127, e127, hx127_0⟩ := Kd.at_int HR0.out 0 p127 q127
                obtain rfl : ad124 = ad127 := (by injection e127)
                have qi127 : (0 < l0.length) = True := eq_true (by omega)
                (try rw [show ((0 : Int)).toNat = 0 from rfl] at hx127_0)
                (try rw [Addr.add_zero'] at hx127_0)
                replace p127 := eq_true p127
                replace q127 := eq_true q127
                have p128 : 0 ≤ (0 : Int) := (by omega)
                have q128 : 0 < (l0.length : Int) := of_decide_eq_true (by first | (with_reducible assumption) | assumption)
                obtain ⟨ad128, e128, hx128_0⟩ := Kd.at_int HR0.out 0 p128 q128
                obtain rfl : ad124 = ad128 := (by injection e128)
                have qi128 : (0 < l0.length) = True := eq_true (by omega)
                (try rw [show ((0 : Int)).toNat = 0 from rfl] at hx128_0)
                (try rw [Addr.add_zero'] at hx128_0)
                replace p128 := eq_true p128
                replace q128 := eq_true q128
                go_enter Tryz.func166, Tryz.ntmps166
                go_wp2
                go_ret
                exact ⟨by first | rfl | (simp; done) | (simp [*]; done), by repeat (first | exact Drawn0.refl _ | apply Drawn0.step)⟩
            · rw [if_neg c7] at H
              have c7b0 : ((rd l0 0) == 110) = false := beq_eq_false_iff_ne.mpr c7
              have c7b1 : ((rd l0 0) != 110) = true := bne_iff_ne.mpr c7
              obtain rfl := Option.some.inj H
              have p124 : 0 ≤ (0 : Int) := (by omega)
              have q124 : 0 < (l0.length : Int) := of_decide_eq_true (by first | (with_reducible assumption) | assumption)
              obtain ⟨ad124, e124, hx124_0⟩ := Kd.at_int HR0.out 0 p124 q124
              cases e124
              have qi124 : (0 < l0.length) = True := eq_true (by omega)
              (try rw [show ((0 : Int)).toNat = 0 from rfl] at hx124_0)
              (try rw [Addr.add_zero'] at hx124_0)
              replace p124 := eq_true p124
              replace q124 := eq_true q124
              have p125 : 0 ≤ (0 : Int) := (by omega)
              have q125 : 0 < (l0.length : Int) := of_decide_eq_true (by first | (with_reducible assumption) | assumption)
              obtain ⟨ad125, e125, hx125_0⟩ := Kd.at_int HR0.out 0 p125 q125
              obtain rfl : ad124 = ad125 := (by injection e125)
              have qi125 : (0 < l0.length) = True := eq_true (by omega)
              (try rw [show ((0 : Int)).toNat = 0 from rfl] at hx125_0)
              (try rw [Addr.add_zero'] at hx125_0)
              replace p125 := eq_true p125
              replace q125 := eq_true q125
              have p126 : 0 ≤ (0 : Int) := (by omega)
              have q126 : 0 < (l0.length : Int) := of_decide_eq_true (by first | (with_reducible assumption) | assumption)
              obtain ⟨ad126, e126, hx126_0⟩ := Kd.at_int HR0.out 0 p126 q126
              obtain rfl : ad124 = ad126 := (by injection e126)
              have qi126 : (0 < l0.length) = True := eq_true (by omega)
              (try rw [show ((0 : Int)).toNat = 0 from rfl] at hx126_0)
              (try rw [Addr.add_zero'] at hx126_0)
              replace p126 := eq_true p126
              replace q126 := eq_true q126
              have p127 : 0 ≤ (0 : Int) := (by omega)
              have q127 : 0 < (l0.length : Int) := of_decide_eq_true (by first | (with_reducible assumption) | assumption)
              obtain ⟨ad127, e127, hx127_0⟩ := Kd.at_int HR0.out 0 p127 q127
              obtain rfl : ad124 = ad127 := (by injection e127)
              have qi127 : (0 < l0.length) = True := eq_true (by omega)
              (try rw [show ((0 : Int)).toNat = 0 from rfl] at hx127_0)
              (try rw [Addr.add_zero'] at hx127_0)
              replace p127 := eq_true p127
              replace q127 := eq_true q127
              have p128 : 0 ≤ (0 : Int) := (by omega)
              have q128 : 0 < (l0.length : Int) := of_decide_eq_true (by first | (with_reducible assumption) | assumption)
              obtain ⟨ad128, e128, hx128_0⟩ := Kd.at_int HR0.out 0 p128 q128
              obtain rfl : ad124 = ad128 := (by injection e128)
              have qi128 : (0 < l0.length) = True := eq_true (by omega)
              (try rw [show ((0 : Int)).toNat = 0 from rfl] at hx128_0)
              (try rw [Addr.add_zero'] at hx128_0)
              replace p128 := eq_true p128
              replace q128 := eq_true q128
              go_enter Tryz.func166, Tryz.ntmps166
              go_wp2
              go_ret
              exact ⟨by first | rfl | (simp; done) | (simp [*]; done), by repeat (first | exact Drawn0.refl _ | apply Drawn0.step)⟩
  · rw [if_neg c2] at H
    exact absurd H (by simp)
end Go.Proofs.YtookccnmgoocpaaGreatDoor.PTwo
