/- What functions of the program answer, and their walks: printed by a program out of the translation, and cut to what this claim reaches. -/
import Derived.Test.YtookccnmgoocpaaGreatDoorUgPTwox0
import Derived.Test.YtookccnmgoocpaaGreatDoorUgPTwox13
import Derived.Test.YtookccnmgoocpaaGreatDoorUgWords
namespace Go.Proofs.YtookccnmgoocpaaGreatDoor.PTwo
open Go.RowKit Go.Proofs.YtookccnmgoocpaaGreatDoorW.PrintWords Go.Proofs.YtookccnmgoocpaaGreatDoorW.PrintLast Go.Proofs.YtookccnmgoocpaaGreatDoorW.PrintMore
attribute [local go_sem] max2_int min2_int max_two min_two max_three min_three max_four min_four   -- for this text's walks alone
set_option linter.unusedVariables false
set_option linter.unusedSimpArgs false
def spec_Unquote.l0 : Nat → List Int → ByteArray → Int → Option (ByteArray)
  | 0, _, _, _ => none
  | k + 1, x3, x4, x5 => if x5 < (x4.size : Int) then (if 0 ≤ x5 then (if (bt x4 x5) = 92 then ((spec_unit.f k x4 x5).bind fun bt344 => (if bt344.2 = true then ((spec_unit.f k x4 (wrap64 (x5 + 6))).bind fun bt350 => (if bt350.2 = true then ((spec_high.f bt344.1).bind fun t352 => (if t352 = true then ((spec_low.f bt350.1).bind fun t353 => (if t353 = true then ((spec_appendUTF8.f k x3 (wrap64 ((wrap64 (65536 + (wrap64 ((wrap64 (bt344.1 - 55296)) * 1024)))) + (wrap64 (bt350.1 - 56320))))).bind fun t354 => (spec_Unquote.l0 k t354 x4 (wrap64 ((wrap64 (x5 + 6)) + 6)))) else ((spec_appendUTF8.f k x3 bt344.1).bind fun t357 => (spec_Unquote.l0 k t357 x4 (wrap64 (x5 + 6)))))) else ((spec_appendUTF8.f k x3 bt344.1).bind fun t360 => (spec_Unquote.l0 k t360 x4 (wrap64 (x5 + 6)))))) else ((spec_appendUTF8.f k x3 bt344.1).bind fun t363 => (spec_Unquote.l0 k t363 x4 (wrap64 (x5 + 6)))))) else (if 0 ≤ (wrap64 (x5 + 1)) then (if (wrap64 (x5 + 1)) < (x4.size : Int) then ((spec_short.f (bt x4 (wrap64 (x5 + 1)))).bind fun t346 => (if x3.length < 140737488355328 then (spec_Unquote.l0 k (x3 ++ [t346]) x4 (wrap64 (x5 + 2))) else (none))) else (none)) else (none)))) else (if x3.length < 140737488355328 then (spec_Unquote.l0 k (x3 ++ [bt x4 x5]) x4 (wrap64 (x5 + 1))) else (none))) else (none)) else (some (strOfNums x3))
def spec_Unquote.f (k : Nat) (a0 : ByteArray) : Option (ByteArray) := if 1 ≤ (wrap64 ((a0.size : Int) - 1)) then (if (wrap64 ((a0.size : Int) - 1)) ≤ (a0.size : Int) then (spec_Unquote.l0 k ([] : List Int) (a0.extract 1 ((wrap64 ((a0.size : Int) - 1)) : Int).toNat) 0) else (none)) else (none)
set_option maxHeartbeats 8000000 in
set_option maxRecDepth 100000 in
theorem spec_Unquote.calls (k : Nat) (a0 : ByteArray) (r : ByteArray) (w : World) (h : spec_Unquote.f k a0 = some r) :
    Calls Tryz.prog 39 #[.string a0] w fun e w' => e = .returned (.string r) ∧ Below w.heap.size w w' := by
  have HB := Aside0.mk (Below.refl w.heap.size w)
  have H : (if 1 ≤ (wrap64 ((a0.size : Int) - 1)) then (if (wrap64 ((a0.size : Int) - 1)) ≤ (a0.size : Int) then (spec_Unquote.l0 k ([] : List Int) (a0.extract 1 ((wrap64 ((a0.size : Int) - 1)) : Int).toNat) 0) else (none)) else (none)) = some r := h
  clear h
  by_cases c2 : 1 ≤ (wrap64 ((a0.size : Int) - 1))
  · rw [if_pos c2] at H
    have c2b0 := eq_true c2
    have c2b1 : decide (1 ≤ (wrap64 ((a0.size : Int) - 1))) = true := decide_eq_true c2
    clear c2
    by_cases c3 : (wrap64 ((a0.size : Int) - 1)) ≤ (a0.size : Int)
    · rw [if_pos c3] at H
      have c3b0 := eq_true c3
      have c3b1 : decide ((wrap64 ((a0.size : Int) - 1)) ≤ (a0.size : Int)) = true := decide_eq_true c3
      clear c3
      have H' := Aside0.mk H
      clear H
      go_enter Tryz.func39, Tryz.ntmps39
      go_wp2
      generalize hbx : a0.extract 1 (wrap64 ((a0.size : Int) - 1)).toNat = bx at H' ⊢
      go_loopg [3, 5] k (fun kq v3 v5 w' => ∃ (x3_1 : List Int) (x5_1 : Int), v5 = .int .i64 x5_1 ∧ Aside0 (spec_Unquote.l0 kq x3_1 bx x5_1 = some r) ∧ Aside0 (kq ≤ k) ∧ Aside0 (Kd.R (Kd.int .u8) 5 w' w.heap.size (fun _ => True) v3 x3_1) ∧ Aside0 (Below w.heap.size w w'))
      case atStart => exact ⟨(([] : List Int)), (0), (by first | rfl | (simp; done) | (simp [*]; done)), H', ⟨Nat.le_refl _⟩, ⟨tc10⟩, ⟨tc4⟩⟩
      case round =>
        clear H'
        try clear c2
        try clear c2b0
        try clear c2b1
        try clear p2
        try clear c3
        try clear c3b0
        try clear c3b1
        obtain ⟨x3_1, x5_1, rfl, HA, HK1, HO_3, HB⟩ := hrel
        cases gk with
        | zero => exact absurd HA.out (by simp [spec_Unquote.l0])
        | succ k1 =>
          have H := HA.out
          clear HA
          simp only [spec_Unquote.l0] at H
          by_cases c4 : x5_1 < (bx.size : Int)
          · rw [if_pos c4] at H
            have c4b0 : decide (x5_1 < (bx.size : Int)) = true := decide_eq_true c4
            clear c4
            by_cases c5 : 0 ≤ x5_1
            · rw [if_pos c5] at H
              have c5b0 : decide (0 ≤ x5_1) = true := decide_eq_true c5
              clear c5
              by_cases c7 : (bt bx x5_1) = 92
              · rw [if_pos c7] at H
                have c7b0 : ((bt bx x5_1) == 92) = true := beq_iff_eq.mpr c7
                have c7b1 : ((bt bx x5_1) != 92) = false := bne_eq_false_iff_eq.mpr c7
                clear c7
                replace H := Option.bind_eq_some_iff.mp H
                obtain ⟨⟨t344, t345⟩, A80, H⟩ := H
                replace H : (if t345 = true then ((spec_unit.f k1 bx (wrap64 (x5_1 + 6))).bind fun bt350 => (if bt350.2 = true then ((spec_high.f t344).bind fun t352 => (if t352 = true then ((spec_low.f bt350.1).bind fun t353 => (if t353 = true then ((spec_appendUTF8.f k1 x3_1 (wrap64 ((wrap64 (65536 + (wrap64 ((wrap64 (t344 - 55296)) * 1024)))) + (wrap64 (bt350.1 - 56320))))).bind fun t354 => (spec_Unquote.l0 k1 t354 bx (wrap64 ((wrap64 (x5_1 + 6)) + 6)))) else ((spec_appendUTF8.f k1 x3_1 t344).bind fun t357 => (spec_Unquote.l0 k1 t357 bx (wrap64 (x5_1 + 6)))))) else ((spec_appendUTF8.f k1 x3_1 t344).bind fun t360 => (spec_Unquote.l0 k1 t360 bx (wrap64 (x5_1 + 6)))))) else ((spec_appendUTF8.f k1 x3_1 t344).bind fun t363 => (spec_Unquote.l0 k1 t363 bx (wrap64 (x5_1 + 6)))))) else (if 0 ≤ (wrap64 (x5_1 + 1)) then (if (wrap64 (x5_1 + 1)) < (bx.size : Int) then ((spec_short.f (bt bx (wrap64 (x5_1 + 1)))).bind fun t346 => (if x3_1.length < 140737488355328 then (spec_Unquote.l0 k1 (x3_1 ++ [t346]) bx (wrap64 (x5_1 + 2))) else (none))) else (none)) else (none))) = some r := H
                have A8 := Aside0.mk A80
                clear A80
                by_cases c9 : t345 = true
                · subst c9
                  have H1 : ((spec_unit.f k1 bx (wrap64 (x5_1 + 6))).bind fun bt350 => (if bt350.2 = true then ((spec_high.f t344).bind fun t352 => (if t352 = true then ((spec_low.f bt350.1).bind fun t353 => (if t353 = true then ((spec_appendUTF8.f k1 x3_1 (wrap64 ((wrap64 (65536 + (wrap64 ((wrap64 (t344 - 55296)) * 1024)))) + (wrap64 (bt350.1 - 56320))))).bind fun t354 => (spec_Unquote.l0 k1 t354 bx (wrap64 ((wrap64 (x5_1 + 6)) + 6)))) else ((spec_appendUTF8.f k1 x3_1 t344).bind fun t357 => (spec_Unquote.l0 k1 t357 bx (wrap64 (x5_1 + 6)))))) else ((spec_appendUTF8.f k1 x3_1 t344).bind fun t360 => (spec_Unquote.l0 k1 t360 bx (wrap64 (x5_1 + 6)))))) else ((spec_appendUTF8.f k1 x3_1 t344).bind fun t363 => (spec_Unquote.l0 k1 t363 bx (wrap64 (x5_1 + 6)))))) = some r := by rw [if_pos rfl] at H; exact H
                  clear H
                  have H := H1
                  clear H1
                  replace H := Option.bind_eq_some_iff.mp H
                  obtain ⟨⟨t350, t351⟩, A100, H⟩ := H
                  replace H : (if t351 = true then ((spec_high.f t344).bind fun t352 => (if t352 = true then ((spec_low.f t350).bind fun t353 => (if t353 = true then ((spec_appendUTF8.f k1 x3_1 (wrap64 ((wrap64 (65536 + (wrap64 ((wrap64 (t344 - 55296)) * 1024)))) + (wrap64 (t350 - 56320))))).bind fun t354 => (spec_Unquote.l0 k1 t354 bx (wrap64 ((wrap64 (x5_1 + 6)) + 6)))) else ((spec_appendUTF8.f k1 x3_1 t344).bind fun t357 => (spec_Unquote.l0 k1 t357 bx (wrap64 (x5_1 + 6)))))) else ((spec_appendUTF8.f k1 x3_1 t344).bind fun t360 => (spec_Unquote.l0 k1 t360 bx (wrap64 (x5_1 + 6)))))) else ((spec_appendUTF8.f k1 x3_1 t344).bind fun t363 => (spec_Unquote.l0 k1 t363 bx (wrap64 (x5_1 + 6))))) = some r := H
                  have A10 := Aside0.mk A100
                  clear A100
                  by_cases c11 : t351 = true
                  · subst c11
                    have H1 : ((spec_high.f t344).bind fun t352 => (if t352 = true then ((spec_low.f t350).bind fun t353 => (if t353 = true then ((spec_appendUTF8.f k1 x3_1 (wrap64 ((wrap64 (65536 + (wrap64 ((wrap64 (t344 - 55296)) * 1024)))) + (wrap64 (t350 - 56320))))).bind fun t354 => (spec_Unquote.l0 k1 t354 bx (wrap64 ((wrap64 (x5_1 + 6)) + 6)))) else ((spec_appendUTF8.f k1 x3_1 t344).bind fun t357 => (spec_Unquote.l0 k1 t357 bx (wrap64 (x5_1 + 6)))))) else ((spec_appendUTF8.f k1 x3_1 t344).bind fun t360 => (spec_Unquote.l0 k1 t360 bx (wrap64 (x5_1 + 6)))))) = some r := by rw [if_pos rfl] at H; exact H
                    clear H
                    have H := H1
                    clear H1
                    replace H := Option.bind_eq_some_iff.mp H
                    obtain ⟨t352, A120, H⟩ := H
                    replace H : (if t352 = true then ((spec_low.f t350).bind fun t353 => (if t353 = true then ((spec_appendUTF8.f k1 x3_1 (wrap64 ((wrap64 (65536 + (wrap64 ((wrap64 (t344 - 55296)) * 1024)))) + (wrap64 (t350 - 56320))))).bind fun t354 => (spec_Unquote.l0 k1 t354 bx (wrap64 ((wrap64 (x5_1 + 6)) + 6)))) else ((spec_appendUTF8.f k1 x3_1 t344).bind fun t357 => (spec_Unquote.l0 k1 t357 bx (wrap64 (x5_1 + 6)))))) else ((spec_appendUTF8.f k1 x3_1 t344).bind fun t360 => (spec_Unquote.l0 k1 t360 bx (wrap64 (x5_1 + 6))))) = some r := H
                    have A12 := Aside0.mk A120
                    clear A120
                    by_cases c13 : t352 = true
                    · subst c13
                      have H1 : ((spec_low.f t350).bind fun t353 => (if t353 = true then ((spec_appendUTF8.f k1 x3_1 (wrap64 ((wrap64 (65536 + (wrap64 ((wrap64 (t344 - 55296)) * 1024)))) + (wrap64 (t350 - 56320))))).bind fun t354 => (spec_Unquote.l0 k1 t354 bx (wrap64 ((wrap64 (x5_1 + 6)) + 6)))) else ((spec_appendUTF8.f k1 x3_1 t344).bind fun t357 => (spec_Unquote.l0 k1 t357 bx (wrap64 (x5_1 + 6)))))) = some r := by rw [if_pos rfl] at H; exact H
                      clear H
                      have H := H1
                      clear H1
                      replace H := Option.bind_eq_some_iff.mp H
                      obtain ⟨t353, A140, H⟩ := H
                      replace H : (if t353 = true then ((spec_appendUTF8.f k1 x3_1 (wrap64 ((wrap64 (65536 + (wrap64 ((wrap64 (t344 - 55296)) * 1024)))) + (wrap64 (t350 - 56320))))).bind fun t354 => (spec_Unquote.l0 k1 t354 bx (wrap64 ((wrap64 (x5_1 + 6)) + 6)))) else ((spec_appendUTF8.f k1 x3_1 t344).bind fun t357 => (spec_Unquote.l0 k1 t357 bx (wrap64 (x5_1 + 6))))) = some r := H
                      have A14 := Aside0.mk A140
                      clear A140
                      by_cases c15 : t353 = true
                      · subst c15
                        have H1 : ((spec_appendUTF8.f k1 x3_1 (wrap64 ((wrap64 (65536 + (wrap64 ((wrap64 (t344 - 55296)) * 1024)))) + (wrap64 (t350 - 56320))))).bind fun t354 => (spec_Unquote.l0 k1 t354 bx (wrap64 ((wrap64 (x5_1 + 6)) + 6)))) = some r := by rw [if_pos rfl] at H; exact H
                        clear H
                        have H := H1
                        clear H1
                        replace H := Option.bind_eq_some_iff.mp H
                        obtain ⟨t354, A160, H⟩ := H
                        replace H : (spec_Unquote.l0 k1 t354 bx (wrap64 ((wrap64 (x5_1 + 6)) + 6))) = some r := H
                        have A16 := Aside0.mk A160
                        clear A160
                        have H' := Aside0.mk H
                        clear H
                        have p6 : 0 ≤ (x5_1 : Int) := of_decide_eq_true (by first | (with_reducible assumption) | assumption)
                        have q6 : x5_1 < (bx.size : Int) := of_decide_eq_true (by first | (with_reducible assumption) | assumption)
                        have hx6 := bt_at bx x5_1
                        replace p6 := eq_true p6
                        replace q6 := eq_true q6
                        go_wp2_with (first | ((with_reducible refine gate_callee (f := 60) rfl ?_); refine goesL_ (some 34) rfl rfl Tryz.func60 (by kernel_rfl) rfl #[.string bx, .int .i64 x5_1] rfl tc3 ?_; (with_reducible refine (spec_unit.calls k1 bx x5_1 t344 true _ A8.out).mono ?_); rintro e w' ⟨rfl, ⟨nd, rfl⟩⟩; refine ⟨_, rfl, ?_⟩) | ((with_reducible refine gate_callee (f := 60) rfl ?_); refine goesL_ (some 54) rfl rfl Tryz.func60 (by kernel_rfl) rfl #[.string bx, .int .i64 (wrap64 (x5_1 + 6))] rfl tc3 ?_; (with_reducible refine (spec_unit.calls k1 bx (wrap64 (x5_1 + 6)) t350 true _ A10.out).mono ?_); rintro e w' ⟨rfl, ⟨nd, rfl⟩⟩; refine ⟨_, rfl, ?_⟩) | (go_at_call 61; (with_reducible refine (spec_high.calls t344 true _ A12.out).mono ?_); rintro e w' ⟨rfl, ⟨nd, rfl⟩⟩) | (go_at_call 62; (with_reducible refine (spec_low.calls t350 true _ A14.out).mono ?_); rintro e w' ⟨rfl, ⟨nd, rfl⟩⟩; obtain ⟨Ao17, co17, eo17⟩ := Kd.R_slice HO_3.out; subst eo17) | ((with_reducible refine gate_callee (f := 66) rfl ?_); refine goesL_ (some 77) rfl rfl Tryz.func66 (by kernel_rfl) rfl #[.slice Ao17 x3_1.length co17, .int .i64 (wrap64 ((wrap64 (65536 + (wrap64 ((wrap64 (t344 - 55296)) * 1024)))) + (wrap64 (t350 - 56320))))] rfl tc3 ?_; (with_reducible refine (spec_appendUTF8.calls k1 (fun k_ => some k_ = (.slice Ao17 x3_1.length co17 : Value).ownBlock) (.slice Ao17 x3_1.length co17) x3_1 (wrap64 ((wrap64 (65536 + (wrap64 ((wrap64 (t344 - 55296)) * 1024)))) + (wrap64 (t350 - 56320)))) t354 w _ ?side1 ?side2 A16.out).mono ?_); (case side1 => exact tc4); (case side2 => exact Kd.R_tight rfl HO_3.out); rintro e w18 ⟨v355, rfl, ho0, hb, hkp⟩; refine ⟨_, rfl, ?_⟩; have n0_ := Aside0.mk (Kd.R_mono (ok' := fun k_ => True) ho0 (fun k_ hk_ => trivial)); have n1_ := Aside0.mk (hb); clear HB; clear HO_3; have HO356 := n0_; have HB := n1_; clear n0_ n1_; (try clear hb); (try clear hkp); (try clear ho0)))
                        go_roundg k1
                        case measure => have := HK1.out; omega
                        case rel => exact ⟨(t354), (wrap64 ((wrap64 (x5_1 + 6)) + 6)), (by first | rfl | (simp; done) | (simp [*]; done)), H', ⟨by have := HK1.out; omega⟩, ⟨by (with_reducible repeat (first | apply Kd.R_alloc | apply Kd.R_drewN | apply Kd.R_drew)); exact HO356.out⟩, ⟨tc4⟩⟩
                      · replace c15 := Bool.eq_false_iff.mpr c15
                        subst c15
                        have H1 : ((spec_appendUTF8.f k1 x3_1 t344).bind fun t357 => (spec_Unquote.l0 k1 t357 bx (wrap64 (x5_1 + 6)))) = some r := by rw [if_neg (show ¬ (false = true) by decide)] at H; exact H
                        clear H
                        have H := H1
                        clear H1
                        replace H := Option.bind_eq_some_iff.mp H
                        obtain ⟨t357, A190, H⟩ := H
                        replace H : (spec_Unquote.l0 k1 t357 bx (wrap64 (x5_1 + 6))) = some r := H
                        have A19 := Aside0.mk A190
                        clear A190
                        have H' := Aside0.mk H
                        clear H
                        have p6 : 0 ≤ (x5_1 : Int) := of_decide_eq_true (by first | (with_reducible assumption) | assumption)
                        have q6 : x5_1 < (bx.size : Int) := of_decide_eq_true (by first | (with_reducible assumption) | assumption)
                        have hx6 := bt_at bx x5_1
                        replace p6 := eq_true p6
                        replace q6 := eq_true q6
                        go_wp2_with (first | ((with_reducible refine gate_callee (f := 60) rfl ?_); refine goesL_ (some 34) rfl rfl Tryz.func60 (by kernel_rfl) rfl #[.string bx, .int .i64 x5_1] rfl tc3 ?_; (with_reducible refine (spec_unit.calls k1 bx x5_1 t344 true _ A8.out).mono ?_); rintro e w' ⟨rfl, ⟨nd, rfl⟩⟩; refine ⟨_, rfl, ?_⟩) | ((with_reducible refine gate_callee (f := 60) rfl ?_); refine goesL_ (some 54) rfl rfl Tryz.func60 (by kernel_rfl) rfl #[.string bx, .int .i64 (wrap64 (x5_1 + 6))] rfl tc3 ?_; (with_reducible refine (spec_unit.calls k1 bx (wrap64 (x5_1 + 6)) t350 true _ A10.out).mono ?_); rintro e w' ⟨rfl, ⟨nd, rfl⟩⟩; refine ⟨_, rfl, ?_⟩) | (go_at_call 61; (with_reducible refine (spec_high.calls t344 true _ A12.out).mono ?_); rintro e w' ⟨rfl, ⟨nd, rfl⟩⟩) | (go_at_call 62; (with_reducible refine (spec_low.calls t350 false _ A14.out).mono ?_); rintro e w' ⟨rfl, ⟨nd, rfl⟩⟩; obtain ⟨Ao20, co20, eo20⟩ := Kd.R_slice HO_3.out; subst eo20) | ((with_reducible refine gate_callee (f := 66) rfl ?_); refine goesL_ (some 77) rfl rfl Tryz.func66 (by kernel_rfl) rfl #[.slice Ao20 x3_1.length co20, .int .i64 t344] rfl tc3 ?_; (with_reducible refine (spec_appendUTF8.calls k1 (fun k_ => some k_ = (.slice Ao20 x3_1.length co20 : Value).ownBlock) (.slice Ao20 x3_1.length co20) x3_1 t344 t357 w _ ?side1 ?side2 A19.out).mono ?_); (case side1 => exact tc4); (case side2 => exact Kd.R_tight rfl HO_3.out); rintro e w21 ⟨v358, rfl, ho0, hb, hkp⟩; refine ⟨_, rfl, ?_⟩; have n0_ := Aside0.mk (Kd.R_mono (ok' := fun k_ => True) ho0 (fun k_ hk_ => trivial)); have n1_ := Aside0.mk (hb); clear HB; clear HO_3; have HO359 := n0_; have HB := n1_; clear n0_ n1_; (try clear hb); (try clear hkp); (try clear ho0)))
                        go_roundg k1
                        case measure => have := HK1.out; omega
                        case rel => exact ⟨(t357), (wrap64 (x5_1 + 6)), (by first | rfl | (simp; done) | (simp [*]; done)), H', ⟨by have := HK1.out; omega⟩, ⟨by (with_reducible repeat (first | apply Kd.R_alloc | apply Kd.R_drewN | apply Kd.R_drew)); exact HO359.out⟩, ⟨tc4⟩⟩
                    · replace c13 := Bool.eq_false_iff.mpr c13
                      subst c13
                      have H1 : ((spec_appendUTF8.f k1 x3_1 t344).bind fun t360 => (spec_Unquote.l0 k1 t360 bx (wrap64 (x5_1 + 6)))) = some r := by rw [if_neg (show ¬ (false = true) by decide)] at H; exact H
                      clear H
                      have H := H1
                      clear H1
                      replace H := Option.bind_eq_some_iff.mp H
                      obtain ⟨t360, A220, H⟩ := H
                      replace H : (spec_Unquote.l0 k1 t360 bx (wrap64 (x5_1 + 6))) = some r := H
                      have A22 := Aside0.mk A220
                      clear A220
                      have H' := Aside0.mk H
                      clear H
                      have p6 : 0 ≤ (x5_1 : Int) := of_decide_eq_true (by first | (with_reducible assumption) | assumption)
                      have q6 : x5_1 < (bx.size : Int) := of_decide_eq_true (by first | (with_reducible assumption) | assumption)
                      have hx6 := bt_at bx x5_1
                      replace p6 := eq_true p6
                      replace q6 := eq_true q6
                      go_wp2_with (first | ((with_reducible refine gate_callee (f := 60) rfl ?_); refine goesL_ (some 34) rfl rfl Tryz.func60 (by kernel_rfl) rfl #[.string bx, .int .i64 x5_1] rfl tc3 ?_; (with_reducible refine (spec_unit.calls k1 bx x5_1 t344 true _ A8.out).mono ?_); rintro e w' ⟨rfl, ⟨nd, rfl⟩⟩; refine ⟨_, rfl, ?_⟩) | ((with_reducible refine gate_callee (f := 60) rfl ?_); refine goesL_ (some 54) rfl rfl Tryz.func60 (by kernel_rfl) rfl #[.string bx, .int .i64 (wrap64 (x5_1 + 6))] rfl tc3 ?_; (with_reducible refine (spec_unit.calls k1 bx (wrap64 (x5_1 + 6)) t350 true _ A10.out).mono ?_); rintro e w' ⟨rfl, ⟨nd, rfl⟩⟩; refine ⟨_, rfl, ?_⟩) | (go_at_call 61; (with_reducible refine (spec_high.calls t344 false _ A12.out).mono ?_); rintro e w' ⟨rfl, ⟨nd, rfl⟩⟩; obtain ⟨Ao23, co23, eo23⟩ := Kd.R_slice HO_3.out; subst eo23) | ((with_reducible refine gate_callee (f := 66) rfl ?_); refine goesL_ (some 77) rfl rfl Tryz.func66 (by kernel_rfl) rfl #[.slice Ao23 x3_1.length co23, .int .i64 t344] rfl tc3 ?_; (with_reducible refine (spec_appendUTF8.calls k1 (fun k_ => some k_ = (.slice Ao23 x3_1.length co23 : Value).ownBlock) (.slice Ao23 x3_1.length co23) x3_1 t344 t360 w _ ?side1 ?side2 A22.out).mono ?_); (case side1 => exact tc4); (case side2 => exact Kd.R_tight rfl HO_3.out); rintro e w24 ⟨v361, rfl, ho0, hb, hkp⟩; refine ⟨_, rfl, ?_⟩; have n0_ := Aside0.mk (Kd.R_mono (ok' := fun k_ => True) ho0 (fun k_ hk_ => trivial)); have n1_ := Aside0.mk (hb); clear HB; clear HO_3; have HO362 := n0_; have HB := n1_; clear n0_ n1_; (try clear hb); (try clear hkp); (try clear ho0)))
                      go_roundg k1
                      case measure => have := HK1.out; omega
                      case rel => exact ⟨(t360), (wrap64 (x5_1 + 6)), (by first | rfl | (simp; done) | (simp [*]; done)), H', ⟨by have := HK1.out; omega⟩, ⟨by (with_reducible repeat (first | apply Kd.R_alloc | apply Kd.R_drewN | apply Kd.R_drew)); exact HO362.out⟩, ⟨tc4⟩⟩
                  · replace c11 := Bool.eq_false_iff.mpr c11
                    subst c11
                    have H1 : ((spec_appendUTF8.f k1 x3_1 t344).bind fun t363 => (spec_Unquote.l0 k1 t363 bx (wrap64 (x5_1 + 6)))) = some r := by rw [if_neg (show ¬ (false = true) by decide)] at H; exact H
                    clear H
                    have H := H1
                    clear H1
                    replace H := Option.bind_eq_some_iff.mp H
                    obtain ⟨t363, A250, H⟩ := H
                    replace H : (spec_Unquote.l0 k1 t363 bx (wrap64 (x5_1 + 6))) = some r := H
                    have A25 := Aside0.mk A250
                    clear A250
                    have H' := Aside0.mk H
                    clear H
                    have p6 : 0 ≤ (x5_1 : Int) := of_decide_eq_true (by first | (with_reducible assumption) | assumption)
                    have q6 : x5_1 < (bx.size : Int) := of_decide_eq_true (by first | (with_reducible assumption) | assumption)
                    have hx6 := bt_at bx x5_1
                    replace p6 := eq_true p6
                    replace q6 := eq_true q6
                    go_wp2_with (first | ((with_reducible refine gate_callee (f := 60) rfl ?_); refine goesL_ (some 34) rfl rfl Tryz.func60 (by kernel_rfl) rfl #[.string bx, .int .i64 x5_1] rfl tc3 ?_; (with_reducible refine (spec_unit.calls k1 bx x5_1 t344 true _ A8.out).mono ?_); rintro e w' ⟨rfl, ⟨nd, rfl⟩⟩; refine ⟨_, rfl, ?_⟩) | ((with_reducible refine gate_callee (f := 60) rfl ?_); refine goesL_ (some 54) rfl rfl Tryz.func60 (by kernel_rfl) rfl #[.string bx, .int .i64 (wrap64 (x5_1 + 6))] rfl tc3 ?_; (with_reducible refine (spec_unit.calls k1 bx (wrap64 (x5_1 + 6)) t350 false _ A10.out).mono ?_); rintro e w' ⟨rfl, ⟨nd, rfl⟩⟩; refine ⟨_, rfl, ?_⟩; obtain ⟨Ao26, co26, eo26⟩ := Kd.R_slice HO_3.out; subst eo26) | ((with_reducible refine gate_callee (f := 66) rfl ?_); refine goesL_ (some 77) rfl rfl Tryz.func66 (by kernel_rfl) rfl #[.slice Ao26 x3_1.length co26, .int .i64 t344] rfl tc3 ?_; (with_reducible refine (spec_appendUTF8.calls k1 (fun k_ => some k_ = (.slice Ao26 x3_1.length co26 : Value).ownBlock) (.slice Ao26 x3_1.length co26) x3_1 t344 t363 w _ ?side1 ?side2 A25.out).mono ?_); (case side1 => exact tc4); (case side2 => exact Kd.R_tight rfl HO_3.out); rintro e w27 ⟨v364, rfl, ho0, hb, hkp⟩; refine ⟨_, rfl, ?_⟩; have n0_ := Aside0.mk (Kd.R_mono (ok' := fun k_ => True) ho0 (fun k_ hk_ => trivial)); have n1_ := Aside0.mk (hb); clear HB; clear HO_3; have HO365 := n0_; have HB := n1_; clear n0_ n1_; (try clear hb); (try clear hkp); (try clear ho0)))
                    go_roundg k1
                    case measure => have := HK1.out; omega
                    case rel => exact ⟨(t363), (wrap64 (x5_1 + 6)), (by first | rfl | (simp; done) | (simp [*]; done)), H', ⟨by have := HK1.out; omega⟩, ⟨by (with_reducible repeat (first | apply Kd.R_alloc | apply Kd.R_drewN | apply Kd.R_drew)); exact HO365.out⟩, ⟨tc4⟩⟩
                · replace c9 := Bool.eq_false_iff.mpr c9
                  subst c9
                  have H1 : (if 0 ≤ (wrap64 (x5_1 + 1)) then (if (wrap64 (x5_1 + 1)) < (bx.size : Int) then ((spec_short.f (bt bx (wrap64 (x5_1 + 1)))).bind fun t346 => (if x3_1.length < 140737488355328 then (spec_Unquote.l0 k1 (x3_1 ++ [t346]) bx (wrap64 (x5_1 + 2))) else (none))) else (none)) else (none)) = some r := by rw [if_neg (show ¬ (false = true) by decide)] at H; exact H
                  clear H
                  have H := H1
                  clear H1
                  obtain ⟨ji28, hji28⟩ : ∃ j_ : Int, (wrap64 (x5_1 + 1)) = j_ := ⟨_, rfl⟩
                  replace H : (if 0 ≤ (ji28) then (if (ji28) < (bx.size : Int) then ((spec_short.f (bt bx (ji28))).bind fun t346 => (if x3_1.length < 140737488355328 then (spec_Unquote.l0 k1 (x3_1 ++ [t346]) bx (wrap64 (x5_1 + 2))) else (none))) else (none)) else (none)) = some r := by first | (rw [hji28] at H; exact H) | (simp only [hji28] at H ⊢; exact H)
                  (try rw [hji28] at A8)
                  have hji28w : (IntKind.i64.wrap (x5_1 + 1)) = ji28 := (i64_w _).trans hji28
                  by_cases c29 : 0 ≤ (ji28)
                  · rw [if_pos c29] at H
                    have c29b0 : decide (0 ≤ (ji28)) = true := decide_eq_true c29
                    clear c29
                    by_cases c30 : (ji28) < (bx.size : Int)
                    · rw [if_pos c30] at H
                      have c30b0 : decide ((ji28) < (bx.size : Int)) = true := decide_eq_true c30
                      clear c30
                      replace H := Option.bind_eq_some_iff.mp H
                      obtain ⟨t346, A320, H⟩ := H
                      replace H : (if x3_1.length < 140737488355328 then (spec_Unquote.l0 k1 (x3_1 ++ [t346]) bx (wrap64 (x5_1 + 2))) else (none)) = some r := H
                      have A32 := Aside0.mk A320
                      clear A320
                      by_cases c33 : x3_1.length < 140737488355328
                      · rw [if_pos c33] at H
                        have LMc33 := Aside0.mk c33
                        clear c33
                        obtain ⟨y347, hy347⟩ : ∃ y_ : List Int, y_ = (x3_1 ++ [t346]) := ⟨_, rfl⟩
                        replace H : (spec_Unquote.l0 k1 y347 bx (wrap64 (x5_1 + 2))) = some r := by first | (rw [hy347]; with_reducible exact H) | (have H2_ := (Option.bind_some _ _).symm.trans H; rw [hy347]; with_reducible exact H2_) | (have H2_ := (Option.bind_some _ _).symm.trans H; with_reducible exact H2_) | with_reducible exact H | (rw [hy347]; exact H) | exact H
                        have Ny347 := Aside0.mk hy347
                        clear hy347
                        have H' := Aside0.mk H
                        clear H
                        have p6 : 0 ≤ (x5_1 : Int) := of_decide_eq_true (by first | (with_reducible assumption) | assumption)
                        have q6 : x5_1 < (bx.size : Int) := of_decide_eq_true (by first | (with_reducible assumption) | assumption)
                        have hx6 := bt_at bx x5_1
                        replace p6 := eq_true p6
                        replace q6 := eq_true q6
                        go_wp2_with (first | ((with_reducible refine gate_callee (f := 60) rfl ?_); refine goesL_ (some 34) rfl rfl Tryz.func60 (by kernel_rfl) rfl #[.string bx, .int .i64 x5_1] rfl tc3 ?_; (with_reducible refine (spec_unit.calls k1 bx x5_1 t344 false _ A8.out).mono ?_); rintro e w' ⟨rfl, ⟨nd, rfl⟩⟩; refine ⟨_, rfl, ?_⟩; have p31 : 0 ≤ ((ji28) : Int) := of_decide_eq_true (by first | (with_reducible assumption) | assumption); have q31 : (ji28) < (bx.size : Int) := of_decide_eq_true (by first | (with_reducible assumption) | assumption); have hx31 := bt_at bx (ji28); replace p31 := eq_true p31; replace q31 := eq_true q31) | ((with_reducible refine gate_callee (f := 65) rfl ?_); refine goesL_ (some 44) rfl rfl Tryz.func65 (by kernel_rfl) rfl #[.int .u8 (bt bx (ji28))] rfl (by (try simp only [List.map_toArray, List.map_cons, List.map_nil]); first | done | (simp only [hji28]; rfl) | rfl | (simp only [List.length_drop, List.length_take]; rfl)) ?_; (with_reducible refine (spec_short.calls (bt bx (ji28)) t346 _ A32.out).mono ?_); rintro e w' ⟨rfl, ⟨nd, rfl⟩⟩; refine ⟨_, rfl, ?_⟩) | ((with_reducible refine gate_builtin (b := .append) (xs := #[.tmp 39, .tmp 45]) rfl ?_); at_builtin; refine Kd.R_append (Kd.int .u8) (w0 := w) w.heap.size rfl (.tmp 39) (.tmp 45) 74 5 (.int .u8 0) 1 rfl Tryz.underlying74 info5 rfl (by decide) (by omega) u3 x3_1 t346 [.int .u8 t346] (fun _ => True) (fun _ => False) rfl rfl ?aP (fun _ hk => hk.elim) ?aF ?aO ?aB ?aS ?aL ?_; (case aP => exact rfl); (case aB => exact tc35); (case aF => exact (fun _ _ => trivial)); (case aO => exact (by (with_reducible repeat (first | apply Kd.R_alloc | apply Kd.R_drewN | apply Kd.R_drew)); exact HO_3.out)); (case aS => exact tc33); (case aL => have := LMc33.out; omega); intro v348 w34 ho hb hg hat; rw [← Ny347.out] at ho; have n0_ := Aside0.mk (hb); have n1_ := Aside0.mk (ho); clear HB; clear HO_3; have HB := n0_; have HO349 := n1_; clear n0_ n1_; clear ho hb hg hat))
                        go_roundg k1
                        case measure => have := HK1.out; omega
                        case rel => exact ⟨(y347), (wrap64 (x5_1 + 2)), (by first | rfl | (simp; done) | (simp [*]; done)), H', ⟨by have := HK1.out; omega⟩, ⟨by (with_reducible repeat (first | apply Kd.R_alloc | apply Kd.R_drewN | apply Kd.R_drew)); exact HO349.out⟩, ⟨tc4⟩⟩
                      · rw [if_neg c33] at H
                        exact absurd H (by simp)
                    · rw [if_neg c30] at H
                      exact absurd H (by simp)
                  · rw [if_neg c29] at H
                    exact absurd H (by simp)
              · rw [if_neg c7] at H
                have c7b0 : ((bt bx x5_1) == 92) = false := beq_eq_false_iff_ne.mpr c7
                have c7b1 : ((bt bx x5_1) != 92) = true := bne_iff_ne.mpr c7
                by_cases c36 : x3_1.length < 140737488355328
                · rw [if_pos c36] at H
                  have LMc36 := Aside0.mk c36
                  clear c36
                  obtain ⟨y341, hy341⟩ : ∃ y_ : List Int, y_ = (x3_1 ++ [bt bx x5_1]) := ⟨_, rfl⟩
                  replace H : (spec_Unquote.l0 k1 y341 bx (wrap64 (x5_1 + 1))) = some r := by first | (rw [hy341]; with_reducible exact H) | (have H2_ := (Option.bind_some _ _).symm.trans H; rw [hy341]; with_reducible exact H2_) | (have H2_ := (Option.bind_some _ _).symm.trans H; with_reducible exact H2_) | with_reducible exact H | (rw [hy341]; exact H) | exact H
                  have Ny341 := Aside0.mk hy341
                  clear hy341
                  have H' := Aside0.mk H
                  clear H
                  have p6 : 0 ≤ (x5_1 : Int) := of_decide_eq_true (by first | (with_reducible assumption) | assumption)
                  have q6 : x5_1 < (bx.size : Int) := of_decide_eq_true (by first | (with_reducible assumption) | assumption)
                  have hx6 := bt_at bx x5_1
                  replace p6 := eq_true p6
                  replace q6 := eq_true q6
                  have p35 : 0 ≤ (x5_1 : Int) := of_decide_eq_true (by first | (with_reducible assumption) | assumption)
                  have q35 : x5_1 < (bx.size : Int) := of_decide_eq_true (by first | (with_reducible assumption) | assumption)
                  have hx35 := bt_at bx x5_1
                  replace p35 := eq_true p35
                  replace q35 := eq_true q35
                  go_wp2_with (first | ((with_reducible refine gate_builtin (b := .append) (xs := #[.tmp 23, .tmp 27]) rfl ?_); at_builtin; refine Kd.R_append (Kd.int .u8) (w0 := w) w.heap.size rfl (.tmp 23) (.tmp 27) 74 5 (.int .u8 0) 1 rfl Tryz.underlying74 info5 rfl (by decide) (by omega) u3 x3_1 (bt bx x5_1) [.int .u8 (bt bx x5_1)] (fun _ => True) (fun _ => False) rfl rfl ?aP (fun _ hk => hk.elim) ?aF ?aO ?aB ?aS ?aL ?_; (case aP => exact rfl); (case aB => exact tc35); (case aF => exact (fun _ _ => trivial)); (case aO => exact (by (with_reducible repeat (first | apply Kd.R_alloc | apply Kd.R_drewN | apply Kd.R_drew)); exact HO_3.out)); (case aS => exact tc33); (case aL => have := LMc36.out; omega); intro v342 w37 ho hb hg hat; rw [← Ny341.out] at ho; have n0_ := Aside0.mk (hb); have n1_ := Aside0.mk (ho); clear HB; clear HO_3; have HB := n0_; have HO343 := n1_; clear n0_ n1_; clear ho hb hg hat))
                  go_roundg k1
                  case measure => have := HK1.out; omega
                  case rel => exact ⟨(y341), (wrap64 (x5_1 + 1)), (by first | rfl | (simp; done) | (simp [*]; done)), H', ⟨by have := HK1.out; omega⟩, ⟨by (with_reducible repeat (first | apply Kd.R_alloc | apply Kd.R_drewN | apply Kd.R_drew)); exact HO343.out⟩, ⟨tc4⟩⟩
                · rw [if_neg c36] at H
                  exact absurd H (by simp)
            · rw [if_neg c5] at H
              exact absurd H (by simp)
          · rw [if_neg c4] at H
            have c4b0 : decide (x5_1 < (bx.size : Int)) = false := decide_eq_false c4
            clear c4
            obtain rfl := Option.some.inj H
            have hcv38 := own_string (P := Tryz.prog) Tryz.underlying74 Tryz.underlying5 Tryz.underlying9 (Kd.own_of_R HO_3.out)
            go_wp2
            go_ret
            exact ⟨tc12, tc4⟩
    · rw [if_neg c3] at H
      exact absurd H (by simp)
  · rw [if_neg c2] at H
    exact absurd H (by simp)
end Go.Proofs.YtookccnmgoocpaaGreatDoor.PTwo
