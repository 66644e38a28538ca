/- What functions of the program answer, and their walks: printed by a program out of the translation, and cut to what this claim reaches. -/
import Derived.Test.YtookccnmgoocpaaGreatDoorUgPTwox0
import Derived.Test.YtookccnmgoocpaaGreatDoorUgPTwox16
import Derived.Test.YtookccnmgoocpaaGreatDoorUgPTwox25
import Derived.Test.YtookccnmgoocpaaGreatDoorUgWords
namespace Go.Proofs.YtookccnmgoocpaaGreatDoor.PTwo
open Go.RowKit Go.Proofs.YtookccnmgoocpaaGreatDoorW.PrintWords Go.Proofs.YtookccnmgoocpaaGreatDoorW.PrintLast Go.Proofs.YtookccnmgoocpaaGreatDoorW.PrintMore
attribute [local go_sem] max2_int min2_int max_two min_two max_three min_three max_four min_four   -- for this text's walks alone
set_option linter.unusedVariables false
set_option linter.unusedSimpArgs false
noncomputable def laws_gjText.f (k : Nat) (a0 : ByteArray) : Option (Int × ByteArray × List ByteArray × (List (S25)) × Bool) := if (a0.size : Int) > 65536 then (some (0, (⟨#[]⟩ : ByteArray), ([] : List ByteArray), ([] : List (S25)), false)) else ((spec_UTF8.f k a0).bind fun t578 => (if t578 = true then ((spec_Paired.f k a0).bind fun t579 => (if t579 = true then ((spec_Read.f k a0).bind fun bt580 => (some (bt580.1, bt580.2.1, bt580.2.2.1, bt580.2.2.2.1, bt580.2.2.2.2))) else (some (0, (⟨#[]⟩ : ByteArray), ([] : List ByteArray), ([] : List (S25)), false)))) else (some (0, (⟨#[]⟩ : ByteArray), ([] : List ByteArray), ([] : List (S25)), false))))
set_option maxHeartbeats 8000000 in
set_option maxRecDepth 100000 in
theorem laws_gjText.calls (k : Nat) (a0 : ByteArray) (r1 : Int) (r2 : ByteArray) (r3 : List ByteArray) (r4 : List (S25)) (r5 : Bool) (w : World) (h : laws_gjText.f k a0 = some (r1, r2, r3, r4, r5)) :
    Calls Tryz.prog 21 #[.string a0] w fun e w' => ∃ v2_ v3_ : Value, e = .returned (.tuple #[.agg #[.int .i64 r1, .string r2, v2_, v3_], .bool r5]) ∧ Kd.R Kd.string 9 w' w.heap.size (fun _ => True) v2_ r3 ∧ Kd.R k25 25 w' w.heap.size (fun k_ => some k_ ≠ (v2_ : Value).ownBlock) v3_ r4 ∧ Below w.heap.size w w' := by
  have hu25 := Tryz.underlying25
  have HB := Aside0.mk (Below.refl w.heap.size w)
  have H : (if (a0.size : Int) > 65536 then (some (0, (⟨#[]⟩ : ByteArray), ([] : List ByteArray), ([] : List (S25)), false)) else ((spec_UTF8.f k a0).bind fun t578 => (if t578 = true then ((spec_Paired.f k a0).bind fun t579 => (if t579 = true then ((spec_Read.f k a0).bind fun bt580 => (some (bt580.1, bt580.2.1, bt580.2.2.1, bt580.2.2.2.1, bt580.2.2.2.2))) else (some (0, (⟨#[]⟩ : ByteArray), ([] : List ByteArray), ([] : List (S25)), false)))) else (some (0, (⟨#[]⟩ : ByteArray), ([] : List ByteArray), ([] : List (S25)), false))))) = some (r1, r2, r3, r4, r5) := h
  clear h
  by_cases c2 : (a0.size : Int) > 65536
  · rw [if_pos c2] at H
    have c2b0 : decide (65536 < (a0.size : Int)) = true := decide_eq_true c2
    have c2b1 : decide (65536 < a0.size) = true := decide_eq_true (by omega)
    clear c2
    simp only [Option.some.injEq, Prod.mk.injEq] at H
    obtain ⟨rfl, rfl, rfl, rfl, rfl⟩ := H
    go_enter Tryz.func21, Tryz.ntmps21
    go_wp2_with (first | ((with_reducible refine gate_dst (N := 2) rfl ?_); refine box_event ?hg (N := 2) ?hd (cs := #[.int .i64 0, .string (⟨#[]⟩ : ByteArray), .slice none 0 0, .slice none 0 0]) (t := 25) ?hr ?_; (case hd => rfl); (case hg => rfl); (case hr => first | (go_simp; done) | (go_simp; rfl)); intro gb577 hg w3 hbox hb; have n0_ := Aside0.mk (below_step tc4 hb); have n1_ := Aside0.mk (hbox); have n2_ := Aside0.mk ((by rw [hg]; exact (below_size tc4) : w.heap.size ≤ gb577)); have n3_ := Aside0.mk ((by rw [hg]; exact (below_size tc4) : w.heap.size ≤ gb577)); clear HB; have HB := n0_; have BK577 := n1_; have GW577 := n2_; have GE577 := n3_; clear n0_ n1_ n2_ n3_; clear hb hbox hg; have hcz4_0 : w3.cell? ⟨gb577, 0, none⟩ = some (.int .i64 0) := (blk_cell BK577.out 0).trans rfl; have hcz4_1 : w3.cell? ⟨gb577, 1, none⟩ = some (.string (⟨#[]⟩ : ByteArray)) := (blk_cell BK577.out 1).trans rfl; have hcz4_2 : w3.cell? ⟨gb577, 2, none⟩ = some (.slice none 0 0) := (blk_cell BK577.out 2).trans rfl; have hcz4_3 : w3.cell? ⟨gb577, 3, none⟩ = some (.slice none 0 0) := (blk_cell BK577.out 3).trans rfl; have hfz4_0 := blk_frozen BK577.out 0; have hfz4_1 := blk_frozen BK577.out 1; have hfz4_2 := blk_frozen BK577.out 2; have hfz4_3 := blk_frozen BK577.out 3))
    refine bodyPost_ret (results_ct rfl _ _ gb577 25 #[.int .i64 0, .string (⟨#[]⟩ : ByteArray), .slice none 0 0, .slice none 0 0] (0, 0) _ rfl tc23 Tryz.underlying25 rfl (by kernel_rfl)) rfl ?_
    exact ⟨_, _, tc12, tc10, tc10, tc30⟩
  · rw [if_neg c2] at H
    have c2b0 : decide (65536 < (a0.size : Int)) = false := decide_eq_false c2
    have c2b1 : decide (65536 < a0.size) = false := decide_eq_false (by omega)
    clear c2
    replace H := Option.bind_eq_some_iff.mp H
    obtain ⟨t578, A50, H⟩ := H
    replace H : (if t578 = true then ((spec_Paired.f k a0).bind fun t579 => (if t579 = true then ((spec_Read.f k a0).bind fun bt580 => (some (bt580.1, bt580.2.1, bt580.2.2.1, bt580.2.2.2.1, bt580.2.2.2.2))) else (some (0, (⟨#[]⟩ : ByteArray), ([] : List ByteArray), ([] : List (S25)), false)))) else (some (0, (⟨#[]⟩ : ByteArray), ([] : List ByteArray), ([] : List (S25)), false))) = some (r1, r2, r3, r4, r5) := H
    have A5 := Aside0.mk A50
    clear A50
    by_cases c6 : t578 = true
    · subst c6
      have H1 : ((spec_Paired.f k a0).bind fun t579 => (if t579 = true then ((spec_Read.f k a0).bind fun bt580 => (some (bt580.1, bt580.2.1, bt580.2.2.1, bt580.2.2.2.1, bt580.2.2.2.2))) else (some (0, (⟨#[]⟩ : ByteArray), ([] : List ByteArray), ([] : List (S25)), false)))) = some (r1, r2, r3, r4, r5) := by rw [if_pos rfl] at H; exact H
      clear H
      have H := H1
      clear H1
      replace H := Option.bind_eq_some_iff.mp H
      obtain ⟨t579, A70, H⟩ := H
      replace H : (if t579 = true then ((spec_Read.f k a0).bind fun bt580 => (some (bt580.1, bt580.2.1, bt580.2.2.1, bt580.2.2.2.1, bt580.2.2.2.2))) else (some (0, (⟨#[]⟩ : ByteArray), ([] : List ByteArray), ([] : List (S25)), false))) = some (r1, r2, r3, r4, r5) := H
      have A7 := Aside0.mk A70
      clear A70
      by_cases c8 : t579 = true
      · subst c8
        have H1 : ((spec_Read.f k a0).bind fun bt580 => (some (bt580.1, bt580.2.1, bt580.2.2.1, bt580.2.2.2.1, bt580.2.2.2.2))) = some (r1, r2, r3, r4, r5) := by rw [if_pos rfl] at H; exact H
        clear H
        have H := H1
        clear H1
        replace H := Option.bind_eq_some_iff.mp H
        obtain ⟨⟨t580, t581, t582, t585, t588⟩, A90, H⟩ := H
        replace H : (some (t580, t581, t582, t585, t588)) = some (r1, r2, r3, r4, r5) := H
        have A9 := Aside0.mk A90
        clear A90
        simp only [Option.some.injEq, Prod.mk.injEq] at H
        obtain ⟨rfl, rfl, rfl, rfl, rfl⟩ := H
        go_enter Tryz.func21, Tryz.ntmps21
        go_wp2_with (first | ((with_reducible refine gate_dst (N := 2) rfl ?_); refine box_event ?hg (N := 2) ?hd (cs := #[.int .i64 0, .string (⟨#[]⟩ : ByteArray), .slice none 0 0, .slice none 0 0]) (t := 25) ?hr ?_; (case hd => rfl); (case hg => rfl); (case hr => first | (go_simp; done) | (go_simp; rfl)); intro gb577 hg w10 hbox hb; have n0_ := Aside0.mk (below_step tc4 hb); have n1_ := Aside0.mk (hbox); have n2_ := Aside0.mk ((by rw [hg]; exact (below_size tc4) : w.heap.size ≤ gb577)); have n3_ := Aside0.mk ((by rw [hg]; exact (below_size tc4) : w.heap.size ≤ gb577)); clear HB; have HB := n0_; have BK577 := n1_; have GW577 := n2_; have GE577 := n3_; clear n0_ n1_ n2_ n3_; clear hb hbox hg) | (go_at_call 33; (with_reducible refine (spec_UTF8.calls k a0 true _ A5.out).mono ?_); rintro e w' ⟨rfl, ⟨nd, rfl⟩⟩; (try (rw [drewN_self w10]; generalize hq_ : World.drewN w10 _ = w10; have n0_ : Aside0 (w10.heap[gb577]? = some (.cells #[.int .i64 0, .string (⟨#[]⟩ : ByteArray), .slice none 0 0, .slice none 0 0] 25 (0, 0))) := ⟨by rw [← hq_]; exact tc52⟩; have n1_ : Aside0 (Below w.heap.size w w10) := ⟨by rw [← hq_]; exact tc30⟩; clear BK577 HB hq_; have BK577 := n0_; have HB := n1_; clear n0_ n1_))) | (go_at_call 34; (with_reducible refine (spec_Paired.calls k a0 true _ A7.out).mono ?_); rintro e w' ⟨rfl, ⟨nd, rfl⟩⟩; (try (rw [drewN_self w10]; generalize hq_ : World.drewN w10 _ = w10; have n0_ : Aside0 (w10.heap[gb577]? = some (.cells #[.int .i64 0, .string (⟨#[]⟩ : ByteArray), .slice none 0 0, .slice none 0 0] 25 (0, 0))) := ⟨by rw [← hq_]; exact tc52⟩; have n1_ : Aside0 (Below w.heap.size w w10) := ⟨by rw [← hq_]; exact tc30⟩; clear BK577 HB hq_; have BK577 := n0_; have HB := n1_; clear n0_ n1_))) | ((with_reducible refine gate_callee (f := 28) rfl ?_); refine goesL_ (some 19) rfl rfl Tryz.func28 (by kernel_rfl) rfl #[.string a0] rfl tc3 ?_; (with_reducible refine (spec_Read.calls k a0 t580 t581 t582 t585 t588 _ A9.out).mono ?_); rintro e w11 ⟨v583, v586, rfl, ho0, ho1, hb⟩; refine ⟨_, rfl, ?_⟩; have n0_ := Aside0.mk (Kd.R_lower ho0 (below_size tc30)); have n1_ := Aside0.mk (Kd.R_lower (Kd.R_newB ho1 (g := gb577) (o := .cells #[.int .i64 0, .string (⟨#[]⟩ : ByteArray), .slice none 0 0, .slice none 0 0] 25 (0, 0)) tc52) (below_size tc30)); have n2_ := Aside0.mk (blk_below (g := gb577) (o := .cells #[.int .i64 0, .string (⟨#[]⟩ : ByteArray), .slice none 0 0, .slice none 0 0] 25 (0, 0)) tc52 hb); have n3_ := Aside0.mk (below_step tc30 hb); clear BK577; clear HB; have HO584 := n0_; have HO587 := n1_; have BK577 := n2_; have HB := n3_; clear n0_ n1_ n2_ n3_; (try clear hb); (try clear hb2); (try clear hk); (try clear hi); (try clear ho0); (try clear ho1); have hcz12_0 : w11.cell? ⟨gb577, 0, none⟩ = some (.int .i64 0) := (blk_cell BK577.out 0).trans rfl; have hcz12_1 : w11.cell? ⟨gb577, 1, none⟩ = some (.string (⟨#[]⟩ : ByteArray)) := (blk_cell BK577.out 1).trans rfl; have hcz12_2 : w11.cell? ⟨gb577, 2, none⟩ = some (.slice none 0 0) := (blk_cell BK577.out 2).trans rfl; have hcz12_3 : w11.cell? ⟨gb577, 3, none⟩ = some (.slice none 0 0) := (blk_cell BK577.out 3).trans rfl; have hfz12_0 := blk_frozen BK577.out 0; have hfz12_1 := blk_frozen BK577.out 1; have hfz12_2 := blk_frozen BK577.out 2; have hfz12_3 := blk_frozen BK577.out 3; obtain ⟨Ao13, co13, eo13⟩ := Kd.R_slice HO584.out; subst eo13; obtain ⟨Ao14, co14, eo14⟩ := Kd.R_slice HO587.out; subst eo14))
        refine bodyPost_ret (results_ct rfl _ _ gb577 25 #[.int .i64 t580, .string t581, .slice Ao13 t582.length co13, .slice Ao14 t585.length co14] (0, 0) _ rfl (by (with_reducible repeat (first | refine blk_drewN ?_ _ | refine blk_drew ?_ | refine blk_alloc ?_ _)); refine blk_put (cs := #[.int .i64 t580, .string t581, .slice Ao13 t582.length co13, .slice none 0 0]) ?_ 3 _ rfl; (with_reducible repeat (first | refine blk_drewN ?_ _ | refine blk_drew ?_ | refine blk_alloc ?_ _)); refine blk_put (cs := #[.int .i64 t580, .string t581, .slice none 0 0, .slice none 0 0]) ?_ 2 _ rfl; (with_reducible repeat (first | refine blk_drewN ?_ _ | refine blk_drew ?_ | refine blk_alloc ?_ _)); refine blk_put (cs := #[.int .i64 t580, .string (⟨#[]⟩ : ByteArray), .slice none 0 0, .slice none 0 0]) ?_ 1 _ rfl; (with_reducible repeat (first | refine blk_drewN ?_ _ | refine blk_drew ?_ | refine blk_alloc ?_ _)); refine blk_put (cs := #[.int .i64 0, .string (⟨#[]⟩ : ByteArray), .slice none 0 0, .slice none 0 0]) ?_ 0 _ rfl; (with_reducible repeat (first | refine blk_drewN ?_ _ | refine blk_drew ?_ | refine blk_alloc ?_ _)); exact BK577.out) Tryz.underlying25 rfl (by kernel_rfl)) rfl ?_
        exact ⟨_, _, tc12, by (with_reducible repeat (first | apply Kd.R_alloc | apply Kd.R_drewN | apply Kd.R_drew)); exact Kd.R_mono (Kd.R_far (p := ⟨gb577, 3, none⟩) (Kd.R_far (p := ⟨gb577, 2, none⟩) (Kd.R_far (p := ⟨gb577, 1, none⟩) (Kd.R_far (p := ⟨gb577, 0, none⟩) (Kd.R_types HO584.out BK577.out (by decide)) (fun _ hk => hk.2) (.int .i64 t580)) (fun _ hk => hk.2) (.string t581)) (fun _ hk => hk.2) (.slice Ao13 t582.length co13)) (fun _ hk => hk.2) (.slice Ao14 t585.length co14)) (fun _ hk => trivial), by (with_reducible repeat (first | apply Kd.R_alloc | apply Kd.R_drewN | apply Kd.R_drew)); exact Kd.R_mono (Kd.R_far (p := ⟨gb577, 3, none⟩) (Kd.R_far (p := ⟨gb577, 2, none⟩) (Kd.R_far (p := ⟨gb577, 1, none⟩) (Kd.R_far (p := ⟨gb577, 0, none⟩) (Kd.R_mono HO587.out (fun k_ hk => (⟨hk, hk.2⟩ : _ ∧ k_ ≠ gb577))) (fun _ hk => hk.2) (.int .i64 t580)) (fun _ hk => hk.2) (.string t581)) (fun _ hk => hk.2) (.slice Ao13 t582.length co13)) (fun _ hk => hk.2) (.slice Ao14 t585.length co14)) (fun _ hk => hk.1.1), tc30⟩
      · replace c8 := Bool.eq_false_iff.mpr c8
        subst c8
        have H1 : (some (0, (⟨#[]⟩ : ByteArray), ([] : List ByteArray), ([] : List (S25)), false)) = some (r1, r2, r3, r4, r5) := by rw [if_neg (show ¬ (false = true) by decide)] at H; exact H
        clear H
        have H := H1
        clear H1
        simp only [Option.some.injEq, Prod.mk.injEq] at H
        obtain ⟨rfl, rfl, rfl, rfl, rfl⟩ := H
        go_enter Tryz.func21, Tryz.ntmps21
        go_wp2_with (first | ((with_reducible refine gate_dst (N := 2) rfl ?_); refine box_event ?hg (N := 2) ?hd (cs := #[.int .i64 0, .string (⟨#[]⟩ : ByteArray), .slice none 0 0, .slice none 0 0]) (t := 25) ?hr ?_; (case hd => rfl); (case hg => rfl); (case hr => first | (go_simp; done) | (go_simp; rfl)); intro gb577 hg w15 hbox hb; have n0_ := Aside0.mk (below_step tc4 hb); have n1_ := Aside0.mk (hbox); have n2_ := Aside0.mk ((by rw [hg]; exact (below_size tc4) : w.heap.size ≤ gb577)); have n3_ := Aside0.mk ((by rw [hg]; exact (below_size tc4) : w.heap.size ≤ gb577)); clear HB; have HB := n0_; have BK577 := n1_; have GW577 := n2_; have GE577 := n3_; clear n0_ n1_ n2_ n3_; clear hb hbox hg) | (go_at_call 33; (with_reducible refine (spec_UTF8.calls k a0 true _ A5.out).mono ?_); rintro e w' ⟨rfl, ⟨nd, rfl⟩⟩; (try (rw [drewN_self w15]; generalize hq_ : World.drewN w15 _ = w15; have n0_ : Aside0 (w15.heap[gb577]? = some (.cells #[.int .i64 0, .string (⟨#[]⟩ : ByteArray), .slice none 0 0, .slice none 0 0] 25 (0, 0))) := ⟨by rw [← hq_]; exact tc52⟩; have n1_ : Aside0 (Below w.heap.size w w15) := ⟨by rw [← hq_]; exact tc30⟩; clear BK577 HB hq_; have BK577 := n0_; have HB := n1_; clear n0_ n1_))) | (go_at_call 34; (with_reducible refine (spec_Paired.calls k a0 false _ A7.out).mono ?_); rintro e w' ⟨rfl, ⟨nd, rfl⟩⟩; (try (rw [drewN_self w15]; generalize hq_ : World.drewN w15 _ = w15; have n0_ : Aside0 (w15.heap[gb577]? = some (.cells #[.int .i64 0, .string (⟨#[]⟩ : ByteArray), .slice none 0 0, .slice none 0 0] 25 (0, 0))) := ⟨by rw [← hq_]; exact tc52⟩; have n1_ : Aside0 (Below w.heap.size w w15) := ⟨by rw [← hq_]; exact tc30⟩; clear BK577 HB hq_; have BK577 := n0_; have HB := n1_; clear n0_ n1_)); have hcz16_0 : w15.cell? ⟨gb577, 0, none⟩ = some (.int .i64 0) := (blk_cell BK577.out 0).trans rfl; have hcz16_1 : w15.cell? ⟨gb577, 1, none⟩ = some (.string (⟨#[]⟩ : ByteArray)) := (blk_cell BK577.out 1).trans rfl; have hcz16_2 : w15.cell? ⟨gb577, 2, none⟩ = some (.slice none 0 0) := (blk_cell BK577.out 2).trans rfl; have hcz16_3 : w15.cell? ⟨gb577, 3, none⟩ = some (.slice none 0 0) := (blk_cell BK577.out 3).trans rfl; have hfz16_0 := blk_frozen BK577.out 0; have hfz16_1 := blk_frozen BK577.out 1; have hfz16_2 := blk_frozen BK577.out 2; have hfz16_3 := blk_frozen BK577.out 3))
        refine bodyPost_ret (results_ct rfl _ _ gb577 25 #[.int .i64 0, .string (⟨#[]⟩ : ByteArray), .slice none 0 0, .slice none 0 0] (0, 0) _ rfl tc23 Tryz.underlying25 rfl (by kernel_rfl)) rfl ?_
        exact ⟨_, _, tc12, tc10, tc10, tc30⟩
    · replace c6 := Bool.eq_false_iff.mpr c6
      subst c6
      have H1 : (some (0, (⟨#[]⟩ : ByteArray), ([] : List ByteArray), ([] : List (S25)), false)) = some (r1, r2, r3, r4, r5) := by rw [if_neg (show ¬ (false = true) by decide)] at H; exact H
      clear H
      have H := H1
      clear H1
      simp only [Option.some.injEq, Prod.mk.injEq] at H
      obtain ⟨rfl, rfl, rfl, rfl, rfl⟩ := H
      go_enter Tryz.func21, Tryz.ntmps21
      go_wp2_with (first | ((with_reducible refine gate_dst (N := 2) rfl ?_); refine box_event ?hg (N := 2) ?hd (cs := #[.int .i64 0, .string (⟨#[]⟩ : ByteArray), .slice none 0 0, .slice none 0 0]) (t := 25) ?hr ?_; (case hd => rfl); (case hg => rfl); (case hr => first | (go_simp; done) | (go_simp; rfl)); intro gb577 hg w17 hbox hb; have n0_ := Aside0.mk (below_step tc4 hb); have n1_ := Aside0.mk (hbox); have n2_ := Aside0.mk ((by rw [hg]; exact (below_size tc4) : w.heap.size ≤ gb577)); have n3_ := Aside0.mk ((by rw [hg]; exact (below_size tc4) : w.heap.size ≤ gb577)); clear HB; have HB := n0_; have BK577 := n1_; have GW577 := n2_; have GE577 := n3_; clear n0_ n1_ n2_ n3_; clear hb hbox hg) | (go_at_call 33; (with_reducible refine (spec_UTF8.calls k a0 false _ A5.out).mono ?_); rintro e w' ⟨rfl, ⟨nd, rfl⟩⟩; (try (rw [drewN_self w17]; generalize hq_ : World.drewN w17 _ = w17; have n0_ : Aside0 (w17.heap[gb577]? = some (.cells #[.int .i64 0, .string (⟨#[]⟩ : ByteArray), .slice none 0 0, .slice none 0 0] 25 (0, 0))) := ⟨by rw [← hq_]; exact tc52⟩; have n1_ : Aside0 (Below w.heap.size w w17) := ⟨by rw [← hq_]; exact tc30⟩; clear BK577 HB hq_; have BK577 := n0_; have HB := n1_; clear n0_ n1_)); have hcz18_0 : w17.cell? ⟨gb577, 0, none⟩ = some (.int .i64 0) := (blk_cell BK577.out 0).trans rfl; have hcz18_1 : w17.cell? ⟨gb577, 1, none⟩ = some (.string (⟨#[]⟩ : ByteArray)) := (blk_cell BK577.out 1).trans rfl; have hcz18_2 : w17.cell? ⟨gb577, 2, none⟩ = some (.slice none 0 0) := (blk_cell BK577.out 2).trans rfl; have hcz18_3 : w17.cell? ⟨gb577, 3, none⟩ = some (.slice none 0 0) := (blk_cell BK577.out 3).trans rfl; have hfz18_0 := blk_frozen BK577.out 0; have hfz18_1 := blk_frozen BK577.out 1; have hfz18_2 := blk_frozen BK577.out 2; have hfz18_3 := blk_frozen BK577.out 3))
      refine bodyPost_ret (results_ct rfl _ _ gb577 25 #[.int .i64 0, .string (⟨#[]⟩ : ByteArray), .slice none 0 0, .slice none 0 0] (0, 0) _ rfl tc23 Tryz.underlying25 rfl (by kernel_rfl)) rfl ?_
      exact ⟨_, _, tc12, tc10, tc10, tc30⟩
end Go.Proofs.YtookccnmgoocpaaGreatDoor.PTwo
