/- What functions of the program answer, and their walks: printed by a program out of the translation, and cut to what this claim reaches. -/
import Derived.Test.YtookccnmgoocpaaGreatDoorUgPTwox0
import Derived.Test.YtookccnmgoocpaaGreatDoorUgPTwox7
import Derived.Test.YtookccnmgoocpaaGreatDoorUgWords
namespace Go.Proofs.YtookccnmgoocpaaGreatDoor.PTwo
open Go.RowKit Go.Proofs.YtookccnmgoocpaaGreatDoorW.PrintWords Go.Proofs.YtookccnmgoocpaaGreatDoorW.PrintLast Go.Proofs.YtookccnmgoocpaaGreatDoorW.PrintMore
attribute [local go_sem] max2_int min2_int max_two min_two max_three min_three max_four min_four   -- for this text's walks alone
set_option linter.unusedVariables false
set_option linter.unusedSimpArgs false
mutual
def spec_unit.j0 : Nat → ByteArray → Int → Bool → Option (Int × Bool)
  | 0, _, _, _ => none
  | k + 1, x0, x1, x27 => if x27 = true then (some (0, false)) else (spec_unit.l0 k x0 x1 0 (wrap64 (x1 + 2)))
def spec_unit.l0 : Nat → ByteArray → Int → Int → Int → Option (Int × Bool)
  | 0, _, _, _, _ => none
  | k + 1, x0, x1, x6, x7 => if x7 < (wrap64 (x1 + 6)) then (if 0 ≤ x7 then (if x7 < (x0.size : Int) then ((spec_hexDigit.f k (bt x0 x7)).bind fun bt310 => (if bt310.2 = true then (spec_unit.l0 k x0 x1 (wrap64 ((wrap64 (x6 * 16)) + bt310.1)) (wrap64 (x7 + 1))) else (some (0, false)))) else (none)) else (none)) else (some (x6, true))
end
def spec_unit.f (k : Nat) (a0 : ByteArray) (a1 : Int) : Option (Int × Bool) := if (wrap64 ((a0.size : Int) - a1)) < 6 then (spec_unit.j0 k a0 a1 true) else (if 0 ≤ a1 then (if a1 < (a0.size : Int) then (if (bt a0 a1) = 92 then (if 0 ≤ (wrap64 (a1 + 1)) then (if (wrap64 (a1 + 1)) < (a0.size : Int) then (spec_unit.j0 k a0 a1 ((bt a0 (wrap64 (a1 + 1))) != 117)) else (none)) else (none)) else (spec_unit.j0 k a0 a1 true)) else (none)) else (none))
set_option maxHeartbeats 8000000 in
set_option maxRecDepth 100000 in
theorem spec_unit.calls (k : Nat) (a0 : ByteArray) (a1 : Int) (r1 : Int) (r2 : Bool) (w : World) (h : spec_unit.f k a0 a1 = some (r1, r2)) :
    Calls Tryz.prog 60 #[.string a0, .int .i64 a1] w fun e w' => e = .returned (.tuple #[.int .i64 r1, .bool r2]) ∧ Drawn0 w w' := by
  have H : (if (wrap64 ((a0.size : Int) - a1)) < 6 then (spec_unit.j0 k a0 a1 true) else (if 0 ≤ a1 then (if a1 < (a0.size : Int) then (if (bt a0 a1) = 92 then (if 0 ≤ (wrap64 (a1 + 1)) then (if (wrap64 (a1 + 1)) < (a0.size : Int) then (spec_unit.j0 k a0 a1 ((bt a0 (wrap64 (a1 + 1))) != 117)) else (none)) else (none)) else (spec_unit.j0 k a0 a1 true)) else (none)) else (none))) = some (r1, r2) := h
  clear h
  have HC3 := Aside0.mk H
  clear H
  go_enter Tryz.func60, Tryz.ntmps60
  go_upto_region 1 with (fail)
  go_cut [27] (fun v27 wc => ∃ (kq : Nat) (x27_2 : Bool), v27 = .bool x27_2 ∧ Aside0 (spec_unit.j0 kq a0 a1 x27_2 = some (r1, r2)) ∧ Aside0 (kq ≤ k) ∧ Drawn0 w wc)
  case first =>
    have H := HC3.out
    clear HC3
    by_cases c4 : (wrap64 ((a0.size : Int) - a1)) < 6
    · rw [if_pos c4] at H
      have c4b0 : decide ((wrap64 ((a0.size : Int) - a1)) < 6) = true := decide_eq_true c4
      clear c4
      (first | rw [c4b0] | (simp only [i64_w, i32_w]; rw [c4b0]) | skip)
      have H' := Aside0.mk H
      clear H
      go_wp2
      go_meet
      case rel => exact ⟨_, (true), (by first | rfl | (simp; done) | (simp [*]; done)), H', ⟨by first | omega | exact Nat.le_refl _⟩, by repeat (first | exact Drawn0.refl _ | apply Drawn0.step)⟩
    · rw [if_neg c4] at H
      have c4b0 : decide ((wrap64 ((a0.size : Int) - a1)) < 6) = false := decide_eq_false c4
      clear c4
      (first | rw [c4b0] | (simp only [i64_w, i32_w]; rw [c4b0]) | skip)
      by_cases c5 : 0 ≤ a1
      · rw [if_pos c5] at H
        have c5b0 : decide (0 ≤ a1) = true := decide_eq_true c5
        clear c5
        by_cases c6 : a1 < (a0.size : Int)
        · rw [if_pos c6] at H
          have c6b0 : decide (a1 < (a0.size : Int)) = true := decide_eq_true c6
          clear c6
          by_cases c8 : (bt a0 a1) = 92
          · rw [if_pos c8] at H
            have c8b0 : ((bt a0 a1) == 92) = true := beq_iff_eq.mpr c8
            have c8b1 : ((bt a0 a1) != 92) = false := bne_eq_false_iff_eq.mpr c8
            clear c8
            obtain ⟨ji9, hji9⟩ : ∃ j_ : Int, (wrap64 (a1 + 1)) = j_ := ⟨_, rfl⟩
            replace H : (if 0 ≤ (ji9) then (if (ji9) < (a0.size : Int) then (spec_unit.j0 k a0 a1 ((bt a0 (ji9)) != 117)) else (none)) else (none)) = some (r1, r2) := by first | (rw [hji9] at H; exact H) | (simp only [hji9] at H ⊢; exact H)
            have hji9w : (IntKind.i64.wrap (a1 + 1)) = ji9 := (i64_w _).trans hji9
            by_cases c10 : 0 ≤ (ji9)
            · rw [if_pos c10] at H
              have c10b0 : decide (0 ≤ (ji9)) = true := decide_eq_true c10
              clear c10
              by_cases c11 : (ji9) < (a0.size : Int)
              · rw [if_pos c11] at H
                have c11b0 : decide ((ji9) < (a0.size : Int)) = true := decide_eq_true c11
                clear c11
                have H' := Aside0.mk H
                clear H
                have p7 : 0 ≤ (a1 : Int) := of_decide_eq_true (by first | (with_reducible assumption) | assumption)
                have q7 : a1 < (a0.size : Int) := of_decide_eq_true (by first | (with_reducible assumption) | assumption)
                have hx7 := bt_at a0 a1
                replace p7 := eq_true p7
                replace q7 := eq_true q7
                have p12 : 0 ≤ ((ji9) : Int) := of_decide_eq_true (by first | (with_reducible assumption) | assumption)
                have q12 : (ji9) < (a0.size : Int) := of_decide_eq_true (by first | (with_reducible assumption) | assumption)
                have hx12 := bt_at a0 (ji9)
                replace p12 := eq_true p12
                replace q12 := eq_true q12
                go_wp2
                go_meet
                case rel => exact ⟨_, (((bt a0 (ji9)) != 117)), (by first | rfl | (simp; done) | (simp only [← hji9] <;> (first | rfl | simp)) | (simp [*]; done)), H', ⟨by first | omega | exact Nat.le_refl _⟩, by repeat (first | exact Drawn0.refl _ | apply Drawn0.step)⟩
              · rw [if_neg c11] at H
                exact absurd H (by simp)
            · rw [if_neg c10] at H
              exact absurd H (by simp)
          · rw [if_neg c8] at H
            have c8b0 : ((bt a0 a1) == 92) = false := beq_eq_false_iff_ne.mpr c8
            have c8b1 : ((bt a0 a1) != 92) = true := bne_iff_ne.mpr c8
            have H' := Aside0.mk H
            clear H
            have p7 : 0 ≤ (a1 : Int) := of_decide_eq_true (by first | (with_reducible assumption) | assumption)
            have q7 : a1 < (a0.size : Int) := of_decide_eq_true (by first | (with_reducible assumption) | assumption)
            have hx7 := bt_at a0 a1
            replace p7 := eq_true p7
            replace q7 := eq_true q7
            go_wp2
            go_meet
            case rel => exact ⟨_, (true), (by first | rfl | (simp; done) | (simp [*]; done)), H', ⟨by first | omega | exact Nat.le_refl _⟩, by repeat (first | exact Drawn0.refl _ | apply Drawn0.step)⟩
        · rw [if_neg c6] at H
          exact absurd H (by simp)
      · rw [if_neg c5] at H
        exact absurd H (by simp)
  case rest =>
    clear HC3
    try clear c1
    try clear p1
    try clear q1
    try clear hx1
    try clear p2
    try clear c4
    try clear c4b0
    try clear c5
    try clear c5b0
    try clear c6
    try clear c6b0
    try clear p6
    try clear p7
    try clear q7
    try clear hx7
    try clear c8
    try clear c8b0
    try clear c8b1
    try clear c10
    try clear c10b0
    try clear c11
    try clear c11b0
    try clear p12
    try clear q12
    try clear hx12
    try clear p12
    try clear p7
    try clear q12
    try clear q7
    obtain ⟨kq, x27_2, rfl, HA, HJ2, ⟨mc2, rfl⟩⟩ := hcut
    cases kq with
    | zero => exact absurd HA.out (by simp [spec_unit.j0])
    | succ kj2 =>
      have H := HA.out
      clear HA
      simp only [spec_unit.j0] at H
      by_cases c13 : x27_2 = true
      · subst c13
        have H1 : (some (0, false)) = some (r1, r2) := by rw [if_pos rfl] at H; exact H
        clear H
        have H := H1
        clear H1
        simp only [Option.some.injEq, Prod.mk.injEq] at H
        obtain ⟨rfl, rfl⟩ := H
        go_wp2
        go_ret2
        exact ⟨by first | rfl | (simp; done) | (simp [*]; done), by repeat (first | exact Drawn0.refl _ | apply Drawn0.step)⟩
      · replace c13 := Bool.eq_false_iff.mpr c13
        subst c13
        have H1 : (spec_unit.l0 kj2 a0 a1 0 (wrap64 (a1 + 2))) = some (r1, r2) := by rw [if_neg (show ¬ (false = true) by decide)] at H; exact H
        clear H
        have H := H1
        clear H1
        have H' := Aside0.mk H
        clear H
        go_wp2
        go_loopg [6, 7] kj2 (fun kq v6 v7 w' => ∃ (x6_2 : Int) (x7_2 : Int), v6 = .int .i64 x6_2 ∧ v7 = .int .i64 x7_2 ∧ Aside0 (spec_unit.l0 kq a0 a1 x6_2 x7_2 = some (r1, r2)) ∧ Aside0 (kq ≤ kj2) ∧ Drawn0 w w')
        case atStart => exact ⟨(0), (wrap64 (a1 + 2)), (by first | rfl | (simp; done) | (simp [*]; done)), (by first | rfl | (simp; done) | (simp [*]; done)), H', ⟨Nat.le_refl _⟩, by repeat (first | exact Drawn0.refl _ | apply Drawn0.step)⟩
        case round =>
          clear H'
          try clear c1
          try clear p1
          try clear q1
          try clear hx1
          try clear c2
          try clear p2
          try clear c4
          try clear c4b0
          try clear c5
          try clear c5b0
          try clear c6
          try clear c6b0
          try clear p6
          try clear p7
          try clear q7
          try clear hx7
          try clear c8
          try clear c8b0
          try clear c8b1
          try clear c10
          try clear c10b0
          try clear c11
          try clear c11b0
          try clear p12
          try clear q12
          try clear hx12
          try clear c13
          try clear p1
          try clear p12
          try clear p2
          try clear p6
          try clear p7
          try clear q1
          try clear q12
          try clear q7
          obtain ⟨x6_2, x7_2, rfl, rfl, HA, HK2, ⟨m2, rfl⟩⟩ := hrel
          cases gk with
          | zero => exact absurd HA.out (by simp [spec_unit.l0])
          | succ k2 =>
            have H := HA.out
            clear HA
            simp only [spec_unit.l0] at H
            by_cases c14 : x7_2 < (wrap64 (a1 + 6))
            · rw [if_pos c14] at H
              have c14b0 : decide (x7_2 < (wrap64 (a1 + 6))) = true := decide_eq_true c14
              clear c14
              by_cases c15 : 0 ≤ x7_2
              · rw [if_pos c15] at H
                have c15b0 : decide (0 ≤ x7_2) = true := decide_eq_true c15
                clear c15
                by_cases c16 : x7_2 < (a0.size : Int)
                · rw [if_pos c16] at H
                  have c16b0 : decide (x7_2 < (a0.size : Int)) = true := decide_eq_true c16
                  clear c16
                  replace H := Option.bind_eq_some_iff.mp H
                  obtain ⟨⟨t310, t311⟩, A180, H⟩ := H
                  replace H : (if t311 = true then (spec_unit.l0 k2 a0 a1 (wrap64 ((wrap64 (x6_2 * 16)) + t310)) (wrap64 (x7_2 + 1))) else (some (0, false))) = some (r1, r2) := H
                  have A18 := Aside0.mk A180
                  clear A180
                  by_cases c19 : t311 = true
                  · subst c19
                    have H1 : (spec_unit.l0 k2 a0 a1 (wrap64 ((wrap64 (x6_2 * 16)) + t310)) (wrap64 (x7_2 + 1))) = some (r1, r2) := by rw [if_pos rfl] at H; exact H
                    clear H
                    have H := H1
                    clear H1
                    have H' := Aside0.mk H
                    clear H
                    have p17 : 0 ≤ (x7_2 : Int) := of_decide_eq_true (by first | (with_reducible assumption) | assumption)
                    have q17 : x7_2 < (a0.size : Int) := of_decide_eq_true (by first | (with_reducible assumption) | assumption)
                    have hx17 := bt_at a0 x7_2
                    replace p17 := eq_true p17
                    replace q17 := eq_true q17
                    go_wp2_with (first | ((with_reducible refine gate_callee (f := 103) rfl ?_); refine goesL_ (some 40) rfl rfl Tryz.func103 (by kernel_rfl) rfl #[.int .u8 (bt a0 x7_2)] rfl tc3 ?_; (with_reducible refine (spec_hexDigit.calls k2 (bt a0 x7_2) t310 true _ A18.out).mono ?_); rintro e w' ⟨rfl, ⟨nd, rfl⟩⟩; refine ⟨_, rfl, ?_⟩))
                    go_roundg k2
                    case measure => have := HJ2.out; have := HK2.out; omega
                    case rel => exact ⟨(wrap64 ((wrap64 (x6_2 * 16)) + t310)), (wrap64 (x7_2 + 1)), (by first | rfl | (simp; done) | (simp [*]; done)), (by first | rfl | (simp; done) | (simp [*]; done)), H', ⟨by have := HJ2.out; have := HK2.out; omega⟩, by repeat (first | exact Drawn0.refl _ | apply Drawn0.step)⟩
                  · replace c19 := Bool.eq_false_iff.mpr c19
                    subst c19
                    have H1 : (some (0, false)) = some (r1, r2) := by rw [if_neg (show ¬ (false = true) by decide)] at H; exact H
                    clear H
                    have H := H1
                    clear H1
                    simp only [Option.some.injEq, Prod.mk.injEq] at H
                    obtain ⟨rfl, rfl⟩ := H
                    have p17 : 0 ≤ (x7_2 : Int) := of_decide_eq_true (by first | (with_reducible assumption) | assumption)
                    have q17 : x7_2 < (a0.size : Int) := of_decide_eq_true (by first | (with_reducible assumption) | assumption)
                    have hx17 := bt_at a0 x7_2
                    replace p17 := eq_true p17
                    replace q17 := eq_true q17
                    go_wp2_with (first | ((with_reducible refine gate_callee (f := 103) rfl ?_); refine goesL_ (some 40) rfl rfl Tryz.func103 (by kernel_rfl) rfl #[.int .u8 (bt a0 x7_2)] rfl tc3 ?_; (with_reducible refine (spec_hexDigit.calls k2 (bt a0 x7_2) t310 false _ A18.out).mono ?_); rintro e w' ⟨rfl, ⟨nd, rfl⟩⟩; refine ⟨_, rfl, ?_⟩))
                    go_ret2
                    exact ⟨by first | rfl | (simp; done) | (simp [*]; done), by repeat (first | exact Drawn0.refl _ | apply Drawn0.step)⟩
                · rw [if_neg c16] at H
                  exact absurd H (by simp)
              · rw [if_neg c15] at H
                exact absurd H (by simp)
            · rw [if_neg c14] at H
              have c14b0 : decide (x7_2 < (wrap64 (a1 + 6))) = false := decide_eq_false c14
              clear c14
              simp only [Option.some.injEq, Prod.mk.injEq] at H
              obtain ⟨rfl, rfl⟩ := H
              go_wp2
              go_ret2
              exact ⟨by first | rfl | (simp; done) | (simp [*]; done), by repeat (first | exact Drawn0.refl _ | apply Drawn0.step)⟩
def spec_high.f (a0 : Int) : Option (Bool) := if 55296 ≤ a0 then (some (decide (a0 ≤ 56319))) else (some false)
set_option maxHeartbeats 8000000 in
set_option maxRecDepth 100000 in
theorem spec_high.calls (a0 : Int) (r : Bool) (w : World) (h : spec_high.f a0 = some r) :
    Calls Tryz.prog 61 #[.int .i64 a0] w fun e w' => e = .returned (.bool r) ∧ Drawn0 w w' := by
  have H : (if 55296 ≤ a0 then (some (decide (a0 ≤ 56319))) else (some false)) = some r := h
  clear h
  by_cases c2 : 55296 ≤ a0
  · rw [if_pos c2] at H
    have c2b0 : decide (55296 ≤ a0) = true := decide_eq_true c2
    clear c2
    obtain rfl := Option.some.inj H
    go_enter Tryz.func61, Tryz.ntmps61
    go_wp2
    go_ret
    exact ⟨by first | rfl | (simp; done) | (simp [*]; done), by repeat (first | exact Drawn0.refl _ | apply Drawn0.step)⟩
  · rw [if_neg c2] at H
    have c2b0 : decide (55296 ≤ a0) = false := decide_eq_false c2
    clear c2
    obtain rfl := Option.some.inj H
    go_enter Tryz.func61, Tryz.ntmps61
    go_wp2
    go_ret
    exact ⟨by first | rfl | (simp; done) | (simp [*]; done), by repeat (first | exact Drawn0.refl _ | apply Drawn0.step)⟩
def spec_low.f (a0 : Int) : Option (Bool) := if 56320 ≤ a0 then (some (decide (a0 ≤ 57343))) else (some false)
set_option maxHeartbeats 8000000 in
set_option maxRecDepth 100000 in
theorem spec_low.calls (a0 : Int) (r : Bool) (w : World) (h : spec_low.f a0 = some r) :
    Calls Tryz.prog 62 #[.int .i64 a0] w fun e w' => e = .returned (.bool r) ∧ Drawn0 w w' := by
  have H : (if 56320 ≤ a0 then (some (decide (a0 ≤ 57343))) else (some false)) = some r := h
  clear h
  by_cases c2 : 56320 ≤ a0
  · rw [if_pos c2] at H
    have c2b0 : decide (56320 ≤ a0) = true := decide_eq_true c2
    clear c2
    obtain rfl := Option.some.inj H
    go_enter Tryz.func62, Tryz.ntmps62
    go_wp2
    go_ret
    exact ⟨by first | rfl | (simp; done) | (simp [*]; done), by repeat (first | exact Drawn0.refl _ | apply Drawn0.step)⟩
  · rw [if_neg c2] at H
    have c2b0 : decide (56320 ≤ a0) = false := decide_eq_false c2
    clear c2
    obtain rfl := Option.some.inj H
    go_enter Tryz.func62, Tryz.ntmps62
    go_wp2
    go_ret
    exact ⟨by first | rfl | (simp; done) | (simp [*]; done), by repeat (first | exact Drawn0.refl _ | apply Drawn0.step)⟩
def spec_short.f (a0 : Int) : Option (Int) := if a0 = 98 then (some 8) else (if a0 = 102 then (some 12) else (if a0 = 110 then (some 10) else (if a0 = 114 then (some 13) else (if a0 = 116 then (some 9) else (some a0)))))
set_option maxHeartbeats 8000000 in
set_option maxRecDepth 100000 in
theorem spec_short.calls (a0 : Int) (r : Int) (w : World) (h : spec_short.f a0 = some r) :
    Calls Tryz.prog 65 #[.int .u8 a0] w fun e w' => e = .returned (.int .u8 r) ∧ Drawn0 w w' := by
  have H : (if a0 = 98 then (some 8) else (if a0 = 102 then (some 12) else (if a0 = 110 then (some 10) else (if a0 = 114 then (some 13) else (if a0 = 116 then (some 9) else (some a0)))))) = some r := h
  clear h
  by_cases c2 : a0 = 98
  · rw [if_pos c2] at H
    have c2b0 : (a0 == 98) = true := beq_iff_eq.mpr c2
    have c2b1 : (a0 != 98) = false := bne_eq_false_iff_eq.mpr c2
    clear c2
    obtain rfl := Option.some.inj H
    go_enter Tryz.func65, Tryz.ntmps65
    go_wp2
    go_ret
    exact ⟨by first | rfl | (simp; done) | (simp [*]; done), by repeat (first | exact Drawn0.refl _ | apply Drawn0.step)⟩
  · rw [if_neg c2] at H
    have c2b0 : (a0 == 98) = false := beq_eq_false_iff_ne.mpr c2
    have c2b1 : (a0 != 98) = true := bne_iff_ne.mpr c2
    by_cases c3 : a0 = 102
    · rw [if_pos c3] at H
      have c3b0 : (a0 == 102) = true := beq_iff_eq.mpr c3
      have c3b1 : (a0 != 102) = false := bne_eq_false_iff_eq.mpr c3
      clear c3
      obtain rfl := Option.some.inj H
      go_enter Tryz.func65, Tryz.ntmps65
      go_wp2
      go_ret
      exact ⟨by first | rfl | (simp; done) | (simp [*]; done), by repeat (first | exact Drawn0.refl _ | apply Drawn0.step)⟩
    · rw [if_neg c3] at H
      have c3b0 : (a0 == 102) = false := beq_eq_false_iff_ne.mpr c3
      have c3b1 : (a0 != 102) = true := bne_iff_ne.mpr c3
      by_cases c4 : a0 = 110
      · rw [if_pos c4] at H
        have c4b0 : (a0 == 110) = true := beq_iff_eq.mpr c4
        have c4b1 : (a0 != 110) = false := bne_eq_false_iff_eq.mpr c4
        clear c4
        obtain rfl := Option.some.inj H
        go_enter Tryz.func65, Tryz.ntmps65
        go_wp2
        go_ret
        exact ⟨by first | rfl | (simp; done) | (simp [*]; done), by repeat (first | exact Drawn0.refl _ | apply Drawn0.step)⟩
      · rw [if_neg c4] at H
        have c4b0 : (a0 == 110) = false := beq_eq_false_iff_ne.mpr c4
        have c4b1 : (a0 != 110) = true := bne_iff_ne.mpr c4
        by_cases c5 : a0 = 114
        · rw [if_pos c5] at H
          have c5b0 : (a0 == 114) = true := beq_iff_eq.mpr c5
          have c5b1 : (a0 != 114) = false := bne_eq_false_iff_eq.mpr c5
          clear c5
          obtain rfl := Option.some.inj H
          go_enter Tryz.func65, Tryz.ntmps65
          go_wp2
          go_ret
          exact ⟨by first | rfl | (simp; done) | (simp [*]; done), by repeat (first | exact Drawn0.refl _ | apply Drawn0.step)⟩
        · rw [if_neg c5] at H
          have c5b0 : (a0 == 114) = false := beq_eq_false_iff_ne.mpr c5
          have c5b1 : (a0 != 114) = true := bne_iff_ne.mpr c5
          by_cases c6 : a0 = 116
          · rw [if_pos c6] at H
            have c6b0 : (a0 == 116) = true := beq_iff_eq.mpr c6
            have c6b1 : (a0 != 116) = false := bne_eq_false_iff_eq.mpr c6
            clear c6
            obtain rfl := Option.some.inj H
            go_enter Tryz.func65, Tryz.ntmps65
            go_wp2
            go_ret
            exact ⟨by first | rfl | (simp; done) | (simp [*]; done), by repeat (first | exact Drawn0.refl _ | apply Drawn0.step)⟩
          · rw [if_neg c6] at H
            have c6b0 : (a0 == 116) = false := beq_eq_false_iff_ne.mpr c6
            have c6b1 : (a0 != 116) = true := bne_iff_ne.mpr c6
            obtain rfl := Option.some.inj H
            go_enter Tryz.func65, Tryz.ntmps65
            go_wp2
            go_ret
            exact ⟨by first | rfl | (simp; done) | (simp [*]; done), by repeat (first | exact Drawn0.refl _ | apply Drawn0.step)⟩
def spec_appendUTF8.j0 : Nat → List Int → Int → Bool → Option (List Int)
  | 0, _, _, _ => none
  | k + 1, x0, x1, x27 => if x27 = true then ((some (([239, 191, 189] : List Int) : List Int)).bind fun y323 => (if x0.length + y323.length < 140737488355328 then (some (x0 ++ y323)) else (none))) else (if x1 < 65536 then ((some (([(wrap64 (224 + (wrap64 (Int.tdiv x1 4096)))) % 256, (wrap64 (128 + (Int.tmod (wrap64 (Int.tdiv x1 64)) 64))) % 256, (wrap64 (128 + (Int.tmod x1 64))) % 256] : List Int) : List Int)).bind fun y329 => (if x0.length + y329.length < 140737488355328 then (some (x0 ++ y329)) else (none))) else ((some (([(wrap64 (240 + (wrap64 (Int.tdiv x1 262144)))) % 256, (wrap64 (128 + (Int.tmod (wrap64 (Int.tdiv x1 4096)) 64))) % 256, (wrap64 (128 + (Int.tmod (wrap64 (Int.tdiv x1 64)) 64))) % 256, (wrap64 (128 + (Int.tmod x1 64))) % 256] : List Int) : List Int)).bind fun y335 => (if x0.length + y335.length < 140737488355328 then (some (x0 ++ y335)) else (none))))
def spec_appendUTF8.f (k : Nat) (l0 : List Int) (a1 : Int) : Option (List Int) := if a1 < 128 then (if l0.length < 140737488355328 then (some (l0 ++ [(a1) % 256])) else (none)) else (if a1 < 2048 then ((some (([(wrap64 (192 + (wrap64 (Int.tdiv a1 64)))) % 256, (wrap64 (128 + (Int.tmod a1 64))) % 256] : List Int) : List Int)).bind fun y315 => (if l0.length + y315.length < 140737488355328 then (some (l0 ++ y315)) else (none))) else ((spec_high.f a1).bind fun t321 => (if t321 = true then (spec_appendUTF8.j0 k l0 a1 true) else ((spec_low.f a1).bind fun t322 => (spec_appendUTF8.j0 k l0 a1 t322)))))
set_option maxHeartbeats 8000000 in
set_option maxRecDepth 100000 in
theorem spec_appendUTF8.calls (k : Nat) (P0_ : Nat → Prop) (u9000_ : Value) (l0 : List Int) (a1 : Int) (r : List Int) (w0 w : World) (hB : Below w0.heap.size w0 w) (ho0 : Kd.R (Kd.int .u8) 5 w w0.heap.size P0_ u9000_ l0) (h : spec_appendUTF8.f k l0 a1 = some r) :
    Calls Tryz.prog 66 #[u9000_, .int .i64 a1] w fun e w' => ∃ v0_ : Value, e = .returned (v0_) ∧ Kd.R (Kd.int .u8) 5 w' w0.heap.size (fun k_ => (P0_ k_ ∨ w.heap.size ≤ k_)) v0_ r ∧ Below w0.heap.size w0 w' ∧ Kept w w' (fun k_ => P0_ k_) := by
  have HO0 := Aside0.mk (show Kd.R (Kd.int .u8) 5 w w0.heap.size (fun k_ => (P0_ k_ ∨ w.heap.size ≤ k_)) u9000_ l0 from Kd.R_mono ho0 (fun k_ hk => (.inl hk)))
  have HK := Aside0.mk (Kept.refl w (fun k_ => P0_ k_))
  have HW0 := Aside0.mk hB.size
  have HB := Aside0.mk hB
  clear hB
  have H : (if a1 < 128 then (if l0.length < 140737488355328 then (some (l0 ++ [(a1) % 256])) else (none)) else (if a1 < 2048 then ((some (([(wrap64 (192 + (wrap64 (Int.tdiv a1 64)))) % 256, (wrap64 (128 + (Int.tmod a1 64))) % 256] : List Int) : List Int)).bind fun y315 => (if l0.length + y315.length < 140737488355328 then (some (l0 ++ y315)) else (none))) else ((spec_high.f a1).bind fun t321 => (if t321 = true then (spec_appendUTF8.j0 k l0 a1 true) else ((spec_low.f a1).bind fun t322 => (spec_appendUTF8.j0 k l0 a1 t322)))))) = some r := h
  clear h
  by_cases c3 : a1 < 128
  · rw [if_pos c3] at H
    have c3b0 : decide (a1 < 128) = true := decide_eq_true c3
    clear c3
    by_cases c4 : l0.length < 140737488355328
    · rw [if_pos c4] at H
      have LMc4 := Aside0.mk c4
      clear c4
      obtain ⟨y312, hy312⟩ : ∃ y_ : List Int, y_ = (l0 ++ [(a1) % 256]) := ⟨_, rfl⟩
      replace H : (some y312) = some r := by first | (rw [hy312]; with_reducible exact H) | (have H2_ := (Option.bind_some _ _).symm.trans H; rw [hy312]; with_reducible exact H2_) | (have H2_ := (Option.bind_some _ _).symm.trans H; with_reducible exact H2_) | with_reducible exact H | (rw [hy312]; exact H) | exact H
      have Ny312 := Aside0.mk hy312
      clear hy312
      obtain rfl := Option.some.inj H
      go_enter Tryz.func66, Tryz.ntmps66
      go_wp2_with (first | ((with_reducible refine gate_builtin (b := .append) (xs := #[.tmp 8, .tmp 11]) rfl ?_); at_builtin; refine Kd.R_append (Kd.int .u8) (w0 := w0) w0.heap.size rfl (.tmp 8) (.tmp 11) 74 5 (.int .u8 0) 1 rfl Tryz.underlying74 info5 rfl (by decide) (by omega) u9000_ l0 ((a1) % 256) [.int .u8 ((a1) % 256)] (fun k_ => (P0_ k_ ∨ w.heap.size ≤ k_)) (fun _ => False) rfl rfl ?aP (fun _ hk => hk.elim) ?aF ?aO ?aB ?aS ?aL ?_; (case aP => exact rfl); (case aB => exact tc35); (case aF => exact tc38); (case aO => exact (by (with_reducible repeat (first | apply Kd.R_alloc | apply Kd.R_drewN | apply Kd.R_drew)); exact HO0.out)); (case aS => exact tc33); (case aL => have := LMc4.out; omega); intro v313 w5 ho hb hg hat; rw [← Ny312.out] at ho; have n0_ := Aside0.mk (hb); have n1_ := Aside0.mk (Kept.of_grown (S := (fun k_ => P0_ k_)) hg tc11 (fun k_ e_ => (HO0.out.1 k_ e_))); have n2_ := Aside0.mk (ho); clear HB; clear HK; clear HO0; have HB := n0_; have HK := n1_; have HO314 := n2_; clear n0_ n1_ n2_; clear ho hb hg hat))
      go_ret
      exact ⟨_, tc12, by (with_reducible repeat (first | apply Kd.R_alloc | apply Kd.R_drewN | apply Kd.R_drew)); exact HO314.out, tc4, tc11⟩
    · rw [if_neg c4] at H
      exact absurd H (by simp)
  · rw [if_neg c3] at H
    have c3b0 : decide (a1 < 128) = false := decide_eq_false c3
    clear c3
    by_cases c6 : a1 < 2048
    · rw [if_pos c6] at H
      have c6b0 : decide (a1 < 2048) = true := decide_eq_true c6
      clear c6
      obtain ⟨y315, hy315⟩ : ∃ y_ : List Int, y_ = (([(wrap64 (192 + (wrap64 (Int.tdiv a1 64)))) % 256, (wrap64 (128 + (Int.tmod a1 64))) % 256] : List Int)) := ⟨_, rfl⟩
      replace H : (if l0.length + y315.length < 140737488355328 then (some (l0 ++ y315)) else (none)) = some r := by first | (rw [hy315]; with_reducible exact H) | (have H2_ := (Option.bind_some _ _).symm.trans H; rw [hy315]; with_reducible exact H2_) | (have H2_ := (Option.bind_some _ _).symm.trans H; with_reducible exact H2_) | with_reducible exact H | (rw [hy315]; exact H) | exact H
      have Ny315 := Aside0.mk hy315
      clear hy315
      by_cases c7 : l0.length + y315.length < 140737488355328
      · rw [if_pos c7] at H
        have LMc7 := Aside0.mk c7
        clear c7
        obtain ⟨y318, hy318⟩ : ∃ y_ : List Int, y_ = (l0 ++ y315) := ⟨_, rfl⟩
        replace H : (some y318) = some r := by first | (rw [hy318]; with_reducible exact H) | (have H2_ := (Option.bind_some _ _).symm.trans H; rw [hy318]; with_reducible exact H2_) | (have H2_ := (Option.bind_some _ _).symm.trans H; with_reducible exact H2_) | with_reducible exact H | (rw [hy318]; exact H) | exact H
        have Ny318 := Aside0.mk hy318
        clear hy318
        obtain rfl := Option.some.inj H
        go_enter Tryz.func66, Tryz.ntmps66
        go_wp2_with (first | ((with_reducible refine gate_dst (N := 25) rfl ?_); refine Kd.R_lit (Kd.int .u8) _ 5 ?hg (N := 25) ?hd (xs := ([(wrap64 (192 + (wrap64 (Int.tdiv a1 64)))) % 256, (wrap64 (128 + (Int.tmod a1 64))) % 256] : List Int)) (inner := [.int .u8 ((wrap64 (192 + (wrap64 (Int.tdiv a1 64)))) % 256), .int .u8 ((wrap64 (128 + (Int.tmod a1 64))) % 256)]) (ok := fun _ => True) (okp := fun _ => True) ?hr ?hp (fun _ hk => hk) trivial (Below.refl _ _) (Nat.le_refl _) (by simp) ?_; (case hd => rfl); (case hg => rfl); (case hr => first | (go_simp; done) | (go_simp; rfl)); (case hp => exact (Reps.one (show Kd.M (Kd.int .u8) _ _ _ ((wrap64 (192 + (wrap64 (Int.tdiv a1 64)))) % 256) [.int .u8 ((wrap64 (192 + (wrap64 (Int.tdiv a1 64)))) % 256)] from rfl) (Reps.one (show Kd.M (Kd.int .u8) _ _ _ ((wrap64 (128 + (Int.tmod a1 64))) % 256) [.int .u8 ((wrap64 (128 + (Int.tmod a1 64))) % 256)] from rfl) (Reps.none _ _)))); intro v316 w8 ho9 hb hg_ hnew_; clear hg_ hnew_; (first | rw [← Ny315.out] at ho9 | (simp only [Int.reduceToNat] at ho9; rw [← Ny315.out] at ho9)); have n0_ := Aside0.mk (Kd.R_elder' (by (with_reducible repeat (first | apply Kd.R_alloc | apply Kd.R_drewN | apply Kd.R_drew)); exact HO0.out) (Kd.R_base ho9) hb); have n1_ := Aside0.mk (Kd.R_lower (Kd.R_new' (Kd.R_newM (M := fun k_ => (P0_ k_ ∨ w.heap.size ≤ k_)) ho9 tc24 (fun k_ h_ => .inr h_)) (Kd.R_lt (by (with_reducible repeat (first | apply Kd.R_alloc | apply Kd.R_drewN | apply Kd.R_drew)); exact HO0.out))) (below_size tc4)); have n2_ := Aside0.mk (Kept.below (S := (fun k_ => P0_ k_)) tc11 hb); have n3_ := Aside0.mk (below_step tc4 hb); clear HO0; clear HK; clear HB; have HO0 := n0_; have HO317 := n1_; have HK := n2_; have HB := n3_; clear n0_ n1_ n2_ n3_; clear hb ho9; obtain ⟨Ao11, co11, eo11⟩ := Kd.R_slice HO317.out; subst eo11) | ((with_reducible refine gate_builtin (b := .append) (xs := #[.tmp 16, .tmp 25]) rfl ?_); at_builtin; refine Kd.R_append_rows (Kd.int .u8) (w0 := w0) w0.heap.size rfl (.tmp 16) (.tmp 25) 74 5 (.int .u8 0) 1 rfl Tryz.underlying74 info5 rfl (by decide) (by omega) u9000_ l0 y315 _ _ _ (fun k_ => (P0_ k_ ∨ w.heap.size ≤ k_) ∧ some k_ ≠ (.slice Ao11 y315.length co11 : Value).ownBlock) (fun _ => False) rfl rfl ?aO ?aR (fun _ _ h => h) (fun _ h => h.elim) ?aF ?aB ?aS ?aL ?_; (case aR => repeat (first | exact (Kd.R_reads' HO317.out).2.2 | (with_reducible refine Kd.C_alloc ?_ _) | (with_reducible refine Kd.C_drewN ?_ _) | (with_reducible refine Kd.C_drew ?_))); (case aB => exact tc35); (case aF => exact (fun k_ hk => ⟨(.inr (Nat.le_trans tc24 hk)), Kd.fresh' (Kd.R_lt (by (with_reducible repeat (first | apply Kd.R_alloc | apply Kd.R_drewN | apply Kd.R_drew)); exact HO317.out)) k_ hk⟩)); (case aO => exact (by (with_reducible repeat (first | apply Kd.R_alloc | apply Kd.R_drewN | apply Kd.R_drew)); exact HO0.out)); (case aS => exact tc33); (case aL => have := LMc7.out; omega); intro v319 w10 ho hb hg hat; rw [← Ny318.out] at ho; have n0_ := Aside0.mk (Kd.R_after (ok := (fun k_ => (P0_ k_ ∨ w.heap.size ≤ k_))) (by (with_reducible repeat (first | apply Kd.R_alloc | apply Kd.R_drewN | apply Kd.R_drew)); exact Kd.R_mono HO317.out (fun _ hk => ⟨hk.1.1, hk.2⟩)) hg hat); have n1_ := Aside0.mk (hb); have n2_ := Aside0.mk (Kept.of_grown (S := (fun k_ => P0_ k_)) hg tc11 (fun k_ e_ => (HO0.out.1 k_ e_).1)); have n3_ := Aside0.mk (ho); clear HO317; clear HB; clear HK; clear HO0; have HO317 := n0_; have HB := n1_; have HK := n2_; have HO320 := n3_; clear n0_ n1_ n2_ n3_; clear ho hb hg hat))
        go_ret
        exact ⟨_, tc12, by (with_reducible repeat (first | apply Kd.R_alloc | apply Kd.R_drewN | apply Kd.R_drew)); exact Kd.R_mono HO320.out (fun _ hk => hk.1), tc4, tc11⟩
      · rw [if_neg c7] at H
        exact absurd H (by simp)
    · rw [if_neg c6] at H
      have c6b0 : decide (a1 < 2048) = false := decide_eq_false c6
      clear c6
      have HC12 := Aside0.mk H
      clear H
      go_enter Tryz.func66, Tryz.ntmps66
      go_upto_region 5 with (fail)
      go_cut [27] (fun v27 wc => ∃ (kq : Nat) (x27_11 : Bool), v27 = .bool x27_11 ∧ Aside0 (spec_appendUTF8.j0 kq l0 a1 x27_11 = some r) ∧ Aside0 (kq ≤ k) ∧ Aside0 (Kd.R (Kd.int .u8) 5 wc w0.heap.size (fun k_ => (P0_ k_ ∨ w.heap.size ≤ k_)) u9000_ l0) ∧ Aside0 (Kept w wc (fun k_ => P0_ k_)) ∧ Aside0 (Below w0.heap.size w0 wc))
      case first =>
        have H := HC12.out
        clear HC12
        replace H := Option.bind_eq_some_iff.mp H
        obtain ⟨t321, A130, H⟩ := H
        replace H : (if t321 = true then (spec_appendUTF8.j0 k l0 a1 true) else ((spec_low.f a1).bind fun t322 => (spec_appendUTF8.j0 k l0 a1 t322))) = some r := H
        have A13 := Aside0.mk A130
        clear A130
        by_cases c14 : t321 = true
        · subst c14
          have H1 : (spec_appendUTF8.j0 k l0 a1 true) = some r := by rw [if_pos rfl] at H; exact H
          clear H
          have H := H1
          clear H1
          have H' := Aside0.mk H
          clear H
          go_wp2_with (first | ((with_reducible refine gate_callee (f := 61) rfl ?_); refine goesL_ (some 29) rfl rfl Tryz.func61 (by kernel_rfl) rfl #[.int .i64 a1] rfl tc3 ?_; (with_reducible refine (spec_high.calls a1 true _ A13.out).mono ?_); rintro e w' ⟨rfl, ⟨nd, rfl⟩⟩; refine ⟨_, rfl, ?_⟩))
          go_meet
          case rel => exact ⟨_, (true), (by first | rfl | (simp; done) | (simp [*]; done)), H', ⟨by first | omega | exact Nat.le_refl _⟩, ⟨by (with_reducible repeat (first | apply Kd.R_alloc | apply Kd.R_drewN | apply Kd.R_drew)); exact HO0.out⟩, ⟨tc11⟩, ⟨tc4⟩⟩
        · replace c14 := Bool.eq_false_iff.mpr c14
          subst c14
          have H1 : ((spec_low.f a1).bind fun t322 => (spec_appendUTF8.j0 k l0 a1 t322)) = some r := by rw [if_neg (show ¬ (false = true) by decide)] at H; exact H
          clear H
          have H := H1
          clear H1
          replace H := Option.bind_eq_some_iff.mp H
          obtain ⟨t322, A150, H⟩ := H
          replace H : (spec_appendUTF8.j0 k l0 a1 t322) = some r := H
          have A15 := Aside0.mk A150
          clear A150
          have H' := Aside0.mk H
          clear H
          go_wp2_with (first | ((with_reducible refine gate_callee (f := 61) rfl ?_); refine goesL_ (some 29) rfl rfl Tryz.func61 (by kernel_rfl) rfl #[.int .i64 a1] rfl tc3 ?_; (with_reducible refine (spec_high.calls a1 false _ A13.out).mono ?_); rintro e w' ⟨rfl, ⟨nd, rfl⟩⟩; refine ⟨_, rfl, ?_⟩) | (go_at_call 62; (with_reducible refine (spec_low.calls a1 t322 _ A15.out).mono ?_); rintro e w' ⟨rfl, ⟨nd, rfl⟩⟩))
          go_meet
          case rel => exact ⟨_, (t322), (by first | rfl | (simp; done) | (simp [*]; done)), H', ⟨by first | omega | exact Nat.le_refl _⟩, ⟨by (with_reducible repeat (first | apply Kd.R_alloc | apply Kd.R_drewN | apply Kd.R_drew)); exact HO0.out⟩, ⟨tc11⟩, ⟨tc4⟩⟩
      case rest =>
        clear HC12
        try clear c1
        try clear p2
        try clear c3
        try clear c3b0
        try clear c4
        try clear c6
        try clear c6b0
        try clear p6
        try clear c7
        try clear c14
        obtain ⟨kq, x27_11, rfl, HA, HJ11, HO_0, HK, HB⟩ := hcut
        cases kq with
        | zero => exact absurd HA.out (by simp [spec_appendUTF8.j0])
        | succ kj11 =>
          have H := HA.out
          clear HA
          simp only [spec_appendUTF8.j0] at H
          by_cases c16 : x27_11 = true
          · subst c16
            have H1 : ((some (([239, 191, 189] : List Int) : List Int)).bind fun y323 => (if l0.length + y323.length < 140737488355328 then (some (l0 ++ y323)) else (none))) = some r := by rw [if_pos rfl] at H; exact H
            clear H
            have H := H1
            clear H1
            obtain ⟨y323, hy323⟩ : ∃ y_ : List Int, y_ = (([239, 191, 189] : List Int)) := ⟨_, rfl⟩
            replace H : (if l0.length + y323.length < 140737488355328 then (some (l0 ++ y323)) else (none)) = some r := by first | (rw [hy323]; with_reducible exact H) | (have H2_ := (Option.bind_some _ _).symm.trans H; rw [hy323]; with_reducible exact H2_) | (have H2_ := (Option.bind_some _ _).symm.trans H; with_reducible exact H2_) | with_reducible exact H | (rw [hy323]; exact H) | exact H
            have Ny323 := Aside0.mk hy323
            clear hy323
            by_cases c17 : l0.length + y323.length < 140737488355328
            · rw [if_pos c17] at H
              have LMc17 := Aside0.mk c17
              clear c17
              obtain ⟨y326, hy326⟩ : ∃ y_ : List Int, y_ = (l0 ++ y323) := ⟨_, rfl⟩
              replace H : (some y326) = some r := by first | (rw [hy326]; with_reducible exact H) | (have H2_ := (Option.bind_some _ _).symm.trans H; rw [hy326]; with_reducible exact H2_) | (have H2_ := (Option.bind_some _ _).symm.trans H; with_reducible exact H2_) | with_reducible exact H | (rw [hy326]; exact H) | exact H
              have Ny326 := Aside0.mk hy326
              clear hy326
              obtain rfl := Option.some.inj H
              go_wp2_with (first | ((with_reducible refine gate_dst (N := 35) rfl ?_); refine Kd.R_lit (Kd.int .u8) _ 5 ?hg (N := 35) ?hd (xs := ([239, 191, 189] : List Int)) (inner := [.int .u8 239, .int .u8 191, .int .u8 189]) (ok := fun _ => True) (okp := fun _ => True) ?hr ?hp (fun _ hk => hk) trivial (Below.refl _ _) (Nat.le_refl _) (by simp) ?_; (case hd => rfl); (case hg => rfl); (case hr => first | (go_simp; done) | (go_simp; rfl)); (case hp => exact (Reps.one (show Kd.M (Kd.int .u8) _ _ _ 239 [.int .u8 239] from rfl) (Reps.one (show Kd.M (Kd.int .u8) _ _ _ 191 [.int .u8 191] from rfl) (Reps.one (show Kd.M (Kd.int .u8) _ _ _ 189 [.int .u8 189] from rfl) (Reps.none _ _))))); intro v324 w18 ho19 hb hg_ hnew_; clear hg_ hnew_; (first | rw [← Ny323.out] at ho19 | (simp only [Int.reduceToNat] at ho19; rw [← Ny323.out] at ho19)); have n0_ := Aside0.mk (Kd.R_elder' tc37 (Kd.R_base ho19) hb); have n1_ := Aside0.mk (Kd.R_lower (Kd.R_new' (Kd.R_newM (M := fun k_ => (P0_ k_ ∨ w.heap.size ≤ k_)) ho19 tc24 (fun k_ h_ => .inr h_)) (Kd.R_lt tc37)) (below_size tc4)); have n2_ := Aside0.mk (Kept.below (S := (fun k_ => P0_ k_)) tc11 hb); have n3_ := Aside0.mk (below_step tc4 hb); clear HO_0; clear HK; clear HB; have HO_0 := n0_; have HO325 := n1_; have HK := n2_; have HB := n3_; clear n0_ n1_ n2_ n3_; clear hb ho19; obtain ⟨Ao21, co21, eo21⟩ := Kd.R_slice HO325.out; subst eo21) | ((with_reducible refine gate_builtin (b := .append) (xs := #[.tmp 34, .tmp 35]) rfl ?_); at_builtin; refine Kd.R_append_rows (Kd.int .u8) (w0 := w0) w0.heap.size rfl (.tmp 34) (.tmp 35) 74 5 (.int .u8 0) 1 rfl Tryz.underlying74 info5 rfl (by decide) (by omega) u9000_ l0 y323 _ _ _ (fun k_ => (P0_ k_ ∨ w.heap.size ≤ k_) ∧ some k_ ≠ (.slice Ao21 y323.length co21 : Value).ownBlock) (fun _ => False) rfl rfl ?aO ?aR (fun _ _ h => h) (fun _ h => h.elim) ?aF ?aB ?aS ?aL ?_; (case aR => repeat (first | exact (Kd.R_reads' HO325.out).2.2 | (with_reducible refine Kd.C_alloc ?_ _) | (with_reducible refine Kd.C_drewN ?_ _) | (with_reducible refine Kd.C_drew ?_))); (case aB => exact tc35); (case aF => exact (fun k_ hk => ⟨(.inr (Nat.le_trans tc24 hk)), Kd.fresh' (Kd.R_lt (by (with_reducible repeat (first | apply Kd.R_alloc | apply Kd.R_drewN | apply Kd.R_drew)); exact HO325.out)) k_ hk⟩)); (case aO => exact tc54); (case aS => exact tc33); (case aL => have := LMc17.out; omega); intro v327 w20 ho hb hg hat; rw [← Ny326.out] at ho; have n0_ := Aside0.mk (Kd.R_after (ok := (fun k_ => (P0_ k_ ∨ w.heap.size ≤ k_))) (by (with_reducible repeat (first | apply Kd.R_alloc | apply Kd.R_drewN | apply Kd.R_drew)); exact Kd.R_mono HO325.out (fun _ hk => ⟨hk.1.1, hk.2⟩)) hg hat); have n1_ := Aside0.mk (hb); have n2_ := Aside0.mk (Kept.of_grown (S := (fun k_ => P0_ k_)) hg tc11 (fun k_ e_ => (HO_0.out.1 k_ e_).1)); have n3_ := Aside0.mk (ho); clear HO325; clear HB; clear HK; clear HO_0; have HO325 := n0_; have HB := n1_; have HK := n2_; have HO328 := n3_; clear n0_ n1_ n2_ n3_; clear ho hb hg hat))
              go_ret
              exact ⟨_, tc12, by (with_reducible repeat (first | apply Kd.R_alloc | apply Kd.R_drewN | apply Kd.R_drew)); exact Kd.R_mono HO328.out (fun _ hk => hk.1), tc4, tc11⟩
            · rw [if_neg c17] at H
              exact absurd H (by simp)
          · replace c16 := Bool.eq_false_iff.mpr c16
            subst c16
            have H1 : (if a1 < 65536 then ((some (([(wrap64 (224 + (wrap64 (Int.tdiv a1 4096)))) % 256, (wrap64 (128 + (Int.tmod (wrap64 (Int.tdiv a1 64)) 64))) % 256, (wrap64 (128 + (Int.tmod a1 64))) % 256] : List Int) : List Int)).bind fun y329 => (if l0.length + y329.length < 140737488355328 then (some (l0 ++ y329)) else (none))) else ((some (([(wrap64 (240 + (wrap64 (Int.tdiv a1 262144)))) % 256, (wrap64 (128 + (Int.tmod (wrap64 (Int.tdiv a1 4096)) 64))) % 256, (wrap64 (128 + (Int.tmod (wrap64 (Int.tdiv a1 64)) 64))) % 256, (wrap64 (128 + (Int.tmod a1 64))) % 256] : List Int) : List Int)).bind fun y335 => (if l0.length + y335.length < 140737488355328 then (some (l0 ++ y335)) else (none)))) = some r := by rw [if_neg (show ¬ (false = true) by decide)] at H; exact H
            clear H
            have H := H1
            clear H1
            by_cases c22 : a1 < 65536
            · rw [if_pos c22] at H
              have c22b0 : decide (a1 < 65536) = true := decide_eq_true c22
              clear c22
              obtain ⟨y329, hy329⟩ : ∃ y_ : List Int, y_ = (([(wrap64 (224 + (wrap64 (Int.tdiv a1 4096)))) % 256, (wrap64 (128 + (Int.tmod (wrap64 (Int.tdiv a1 64)) 64))) % 256, (wrap64 (128 + (Int.tmod a1 64))) % 256] : List Int)) := ⟨_, rfl⟩
              replace H : (if l0.length + y329.length < 140737488355328 then (some (l0 ++ y329)) else (none)) = some r := by first | (rw [hy329]; with_reducible exact H) | (have H2_ := (Option.bind_some _ _).symm.trans H; rw [hy329]; with_reducible exact H2_) | (have H2_ := (Option.bind_some _ _).symm.trans H; with_reducible exact H2_) | with_reducible exact H | (rw [hy329]; exact H) | exact H
              have Ny329 := Aside0.mk hy329
              clear hy329
              by_cases c23 : l0.length + y329.length < 140737488355328
              · rw [if_pos c23] at H
                have LMc23 := Aside0.mk c23
                clear c23
                obtain ⟨y332, hy332⟩ : ∃ y_ : List Int, y_ = (l0 ++ y329) := ⟨_, rfl⟩
                replace H : (some y332) = some r := by first | (rw [hy332]; with_reducible exact H) | (have H2_ := (Option.bind_some _ _).symm.trans H; rw [hy332]; with_reducible exact H2_) | (have H2_ := (Option.bind_some _ _).symm.trans H; with_reducible exact H2_) | with_reducible exact H | (rw [hy332]; exact H) | exact H
                have Ny332 := Aside0.mk hy332
                clear hy332
                obtain rfl := Option.some.inj H
                go_wp2_with (first | ((with_reducible refine gate_dst (N := 54) rfl ?_); refine Kd.R_lit (Kd.int .u8) _ 5 ?hg (N := 54) ?hd (xs := ([(wrap64 (224 + (wrap64 (Int.tdiv a1 4096)))) % 256, (wrap64 (128 + (Int.tmod (wrap64 (Int.tdiv a1 64)) 64))) % 256, (wrap64 (128 + (Int.tmod a1 64))) % 256] : List Int)) (inner := [.int .u8 ((wrap64 (224 + (wrap64 (Int.tdiv a1 4096)))) % 256), .int .u8 ((wrap64 (128 + (Int.tmod (wrap64 (Int.tdiv a1 64)) 64))) % 256), .int .u8 ((wrap64 (128 + (Int.tmod a1 64))) % 256)]) (ok := fun _ => True) (okp := fun _ => True) ?hr ?hp (fun _ hk => hk) trivial (Below.refl _ _) (Nat.le_refl _) (by simp) ?_; (case hd => rfl); (case hg => rfl); (case hr => first | (go_simp; done) | (go_simp; rfl)); (case hp => exact (Reps.one (show Kd.M (Kd.int .u8) _ _ _ ((wrap64 (224 + (wrap64 (Int.tdiv a1 4096)))) % 256) [.int .u8 ((wrap64 (224 + (wrap64 (Int.tdiv a1 4096)))) % 256)] from rfl) (Reps.one (show Kd.M (Kd.int .u8) _ _ _ ((wrap64 (128 + (Int.tmod (wrap64 (Int.tdiv a1 64)) 64))) % 256) [.int .u8 ((wrap64 (128 + (Int.tmod (wrap64 (Int.tdiv a1 64)) 64))) % 256)] from rfl) (Reps.one (show Kd.M (Kd.int .u8) _ _ _ ((wrap64 (128 + (Int.tmod a1 64))) % 256) [.int .u8 ((wrap64 (128 + (Int.tmod a1 64))) % 256)] from rfl) (Reps.none _ _))))); intro v330 w24 ho25 hb hg_ hnew_; clear hg_ hnew_; (first | rw [← Ny329.out] at ho25 | (simp only [Int.reduceToNat] at ho25; rw [← Ny329.out] at ho25)); have n0_ := Aside0.mk (Kd.R_elder' tc37 (Kd.R_base ho25) hb); have n1_ := Aside0.mk (Kd.R_lower (Kd.R_new' (Kd.R_newM (M := fun k_ => (P0_ k_ ∨ w.heap.size ≤ k_)) ho25 tc24 (fun k_ h_ => .inr h_)) (Kd.R_lt tc37)) (below_size tc4)); have n2_ := Aside0.mk (Kept.below (S := (fun k_ => P0_ k_)) tc11 hb); have n3_ := Aside0.mk (below_step tc4 hb); clear HO_0; clear HK; clear HB; have HO_0 := n0_; have HO331 := n1_; have HK := n2_; have HB := n3_; clear n0_ n1_ n2_ n3_; clear hb ho25; obtain ⟨Ao27, co27, eo27⟩ := Kd.R_slice HO331.out; subst eo27) | ((with_reducible refine gate_builtin (b := .append) (xs := #[.tmp 40, .tmp 54]) rfl ?_); at_builtin; refine Kd.R_append_rows (Kd.int .u8) (w0 := w0) w0.heap.size rfl (.tmp 40) (.tmp 54) 74 5 (.int .u8 0) 1 rfl Tryz.underlying74 info5 rfl (by decide) (by omega) u9000_ l0 y329 _ _ _ (fun k_ => (P0_ k_ ∨ w.heap.size ≤ k_) ∧ some k_ ≠ (.slice Ao27 y329.length co27 : Value).ownBlock) (fun _ => False) rfl rfl ?aO ?aR (fun _ _ h => h) (fun _ h => h.elim) ?aF ?aB ?aS ?aL ?_; (case aR => repeat (first | exact (Kd.R_reads' HO331.out).2.2 | (with_reducible refine Kd.C_alloc ?_ _) | (with_reducible refine Kd.C_drewN ?_ _) | (with_reducible refine Kd.C_drew ?_))); (case aB => exact tc35); (case aF => exact (fun k_ hk => ⟨(.inr (Nat.le_trans tc24 hk)), Kd.fresh' (Kd.R_lt (by (with_reducible repeat (first | apply Kd.R_alloc | apply Kd.R_drewN | apply Kd.R_drew)); exact HO331.out)) k_ hk⟩)); (case aO => exact tc54); (case aS => exact tc33); (case aL => have := LMc23.out; omega); intro v333 w26 ho hb hg hat; rw [← Ny332.out] at ho; have n0_ := Aside0.mk (Kd.R_after (ok := (fun k_ => (P0_ k_ ∨ w.heap.size ≤ k_))) (by (with_reducible repeat (first | apply Kd.R_alloc | apply Kd.R_drewN | apply Kd.R_drew)); exact Kd.R_mono HO331.out (fun _ hk => ⟨hk.1.1, hk.2⟩)) hg hat); have n1_ := Aside0.mk (hb); have n2_ := Aside0.mk (Kept.of_grown (S := (fun k_ => P0_ k_)) hg tc11 (fun k_ e_ => (HO_0.out.1 k_ e_).1)); have n3_ := Aside0.mk (ho); clear HO331; clear HB; clear HK; clear HO_0; have HO331 := n0_; have HB := n1_; have HK := n2_; have HO334 := n3_; clear n0_ n1_ n2_ n3_; clear ho hb hg hat))
                go_ret
                exact ⟨_, tc12, by (with_reducible repeat (first | apply Kd.R_alloc | apply Kd.R_drewN | apply Kd.R_drew)); exact Kd.R_mono HO334.out (fun _ hk => hk.1), tc4, tc11⟩
              · rw [if_neg c23] at H
                exact absurd H (by simp)
            · rw [if_neg c22] at H
              have c22b0 : decide (a1 < 65536) = false := decide_eq_false c22
              clear c22
              obtain ⟨y335, hy335⟩ : ∃ y_ : List Int, y_ = (([(wrap64 (240 + (wrap64 (Int.tdiv a1 262144)))) % 256, (wrap64 (128 + (Int.tmod (wrap64 (Int.tdiv a1 4096)) 64))) % 256, (wrap64 (128 + (Int.tmod (wrap64 (Int.tdiv a1 64)) 64))) % 256, (wrap64 (128 + (Int.tmod a1 64))) % 256] : List Int)) := ⟨_, rfl⟩
              replace H : (if l0.length + y335.length < 140737488355328 then (some (l0 ++ y335)) else (none)) = some r := by first | (rw [hy335]; with_reducible exact H) | (have H2_ := (Option.bind_some _ _).symm.trans H; rw [hy335]; with_reducible exact H2_) | (have H2_ := (Option.bind_some _ _).symm.trans H; with_reducible exact H2_) | with_reducible exact H | (rw [hy335]; exact H) | exact H
              have Ny335 := Aside0.mk hy335
              clear hy335
              by_cases c28 : l0.length + y335.length < 140737488355328
              · rw [if_pos c28] at H
                have LMc28 := Aside0.mk c28
                clear c28
                obtain ⟨y338, hy338⟩ : ∃ y_ : List Int, y_ = (l0 ++ y335) := ⟨_, rfl⟩
                replace H : (some y338) = some r := by first | (rw [hy338]; with_reducible exact H) | (have H2_ := (Option.bind_some _ _).symm.trans H; rw [hy338]; with_reducible exact H2_) | (have H2_ := (Option.bind_some _ _).symm.trans H; with_reducible exact H2_) | with_reducible exact H | (rw [hy338]; exact H) | exact H
                have Ny338 := Aside0.mk hy338
                clear hy338
                obtain rfl := Option.some.inj H
                go_wp2_with (first | ((with_reducible refine gate_dst (N := 75) rfl ?_); refine Kd.R_lit (Kd.int .u8) _ 5 ?hg (N := 75) ?hd (xs := ([(wrap64 (240 + (wrap64 (Int.tdiv a1 262144)))) % 256, (wrap64 (128 + (Int.tmod (wrap64 (Int.tdiv a1 4096)) 64))) % 256, (wrap64 (128 + (Int.tmod (wrap64 (Int.tdiv a1 64)) 64))) % 256, (wrap64 (128 + (Int.tmod a1 64))) % 256] : List Int)) (inner := [.int .u8 ((wrap64 (240 + (wrap64 (Int.tdiv a1 262144)))) % 256), .int .u8 ((wrap64 (128 + (Int.tmod (wrap64 (Int.tdiv a1 4096)) 64))) % 256), .int .u8 ((wrap64 (128 + (Int.tmod (wrap64 (Int.tdiv a1 64)) 64))) % 256), .int .u8 ((wrap64 (128 + (Int.tmod a1 64))) % 256)]) (ok := fun _ => True) (okp := fun _ => True) ?hr ?hp (fun _ hk => hk) trivial (Below.refl _ _) (Nat.le_refl _) (by simp) ?_; (case hd => rfl); (case hg => rfl); (case hr => first | (go_simp; done) | (go_simp; rfl)); (case hp => exact (Reps.one (show Kd.M (Kd.int .u8) _ _ _ ((wrap64 (240 + (wrap64 (Int.tdiv a1 262144)))) % 256) [.int .u8 ((wrap64 (240 + (wrap64 (Int.tdiv a1 262144)))) % 256)] from rfl) (Reps.one (show Kd.M (Kd.int .u8) _ _ _ ((wrap64 (128 + (Int.tmod (wrap64 (Int.tdiv a1 4096)) 64))) % 256) [.int .u8 ((wrap64 (128 + (Int.tmod (wrap64 (Int.tdiv a1 4096)) 64))) % 256)] from rfl) (Reps.one (show Kd.M (Kd.int .u8) _ _ _ ((wrap64 (128 + (Int.tmod (wrap64 (Int.tdiv a1 64)) 64))) % 256) [.int .u8 ((wrap64 (128 + (Int.tmod (wrap64 (Int.tdiv a1 64)) 64))) % 256)] from rfl) (Reps.one (show Kd.M (Kd.int .u8) _ _ _ ((wrap64 (128 + (Int.tmod a1 64))) % 256) [.int .u8 ((wrap64 (128 + (Int.tmod a1 64))) % 256)] from rfl) (Reps.none _ _)))))); intro v336 w29 ho30 hb hg_ hnew_; clear hg_ hnew_; (first | rw [← Ny335.out] at ho30 | (simp only [Int.reduceToNat] at ho30; rw [← Ny335.out] at ho30)); have n0_ := Aside0.mk (Kd.R_elder' tc37 (Kd.R_base ho30) hb); have n1_ := Aside0.mk (Kd.R_lower (Kd.R_new' (Kd.R_newM (M := fun k_ => (P0_ k_ ∨ w.heap.size ≤ k_)) ho30 tc24 (fun k_ h_ => .inr h_)) (Kd.R_lt tc37)) (below_size tc4)); have n2_ := Aside0.mk (Kept.below (S := (fun k_ => P0_ k_)) tc11 hb); have n3_ := Aside0.mk (below_step tc4 hb); clear HO_0; clear HK; clear HB; have HO_0 := n0_; have HO337 := n1_; have HK := n2_; have HB := n3_; clear n0_ n1_ n2_ n3_; clear hb ho30; obtain ⟨Ao32, co32, eo32⟩ := Kd.R_slice HO337.out; subst eo32) | ((with_reducible refine gate_builtin (b := .append) (xs := #[.tmp 56, .tmp 75]) rfl ?_); at_builtin; refine Kd.R_append_rows (Kd.int .u8) (w0 := w0) w0.heap.size rfl (.tmp 56) (.tmp 75) 74 5 (.int .u8 0) 1 rfl Tryz.underlying74 info5 rfl (by decide) (by omega) u9000_ l0 y335 _ _ _ (fun k_ => (P0_ k_ ∨ w.heap.size ≤ k_) ∧ some k_ ≠ (.slice Ao32 y335.length co32 : Value).ownBlock) (fun _ => False) rfl rfl ?aO ?aR (fun _ _ h => h) (fun _ h => h.elim) ?aF ?aB ?aS ?aL ?_; (case aR => repeat (first | exact (Kd.R_reads' HO337.out).2.2 | (with_reducible refine Kd.C_alloc ?_ _) | (with_reducible refine Kd.C_drewN ?_ _) | (with_reducible refine Kd.C_drew ?_))); (case aB => exact tc35); (case aF => exact (fun k_ hk => ⟨(.inr (Nat.le_trans tc24 hk)), Kd.fresh' (Kd.R_lt (by (with_reducible repeat (first | apply Kd.R_alloc | apply Kd.R_drewN | apply Kd.R_drew)); exact HO337.out)) k_ hk⟩)); (case aO => exact tc54); (case aS => exact tc33); (case aL => have := LMc28.out; omega); intro v339 w31 ho hb hg hat; rw [← Ny338.out] at ho; have n0_ := Aside0.mk (Kd.R_after (ok := (fun k_ => (P0_ k_ ∨ w.heap.size ≤ k_))) (by (with_reducible repeat (first | apply Kd.R_alloc | apply Kd.R_drewN | apply Kd.R_drew)); exact Kd.R_mono HO337.out (fun _ hk => ⟨hk.1.1, hk.2⟩)) hg hat); have n1_ := Aside0.mk (hb); have n2_ := Aside0.mk (Kept.of_grown (S := (fun k_ => P0_ k_)) hg tc11 (fun k_ e_ => (HO_0.out.1 k_ e_).1)); have n3_ := Aside0.mk (ho); clear HO337; clear HB; clear HK; clear HO_0; have HO337 := n0_; have HB := n1_; have HK := n2_; have HO340 := n3_; clear n0_ n1_ n2_ n3_; clear ho hb hg hat))
                go_ret
                exact ⟨_, tc12, by (with_reducible repeat (first | apply Kd.R_alloc | apply Kd.R_drewN | apply Kd.R_drew)); exact Kd.R_mono HO340.out (fun _ hk => hk.1), tc4, tc11⟩
              · rw [if_neg c28] at H
                exact absurd H (by simp)
end Go.Proofs.YtookccnmgoocpaaGreatDoor.PTwo
