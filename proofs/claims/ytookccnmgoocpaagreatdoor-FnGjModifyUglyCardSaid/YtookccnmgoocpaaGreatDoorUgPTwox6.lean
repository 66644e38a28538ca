/- What functions of the program answer, and their walks: printed by a program out of the translation, and cut to what this claim reaches. -/
import Derived.Test.YtookccnmgoocpaaGreatDoorUgPTwox0
import Derived.Test.YtookccnmgoocpaaGreatDoorUgWords
namespace Go.Proofs.YtookccnmgoocpaaGreatDoor.PTwo
open Go.RowKit Go.Proofs.YtookccnmgoocpaaGreatDoorW.PrintWords Go.Proofs.YtookccnmgoocpaaGreatDoorW.PrintLast Go.Proofs.YtookccnmgoocpaaGreatDoorW.PrintMore
attribute [local go_sem] max2_int min2_int max_two min_two max_three min_three max_four min_four   -- for this text's walks alone
set_option linter.unusedVariables false
set_option linter.unusedSimpArgs false
mutual
def pretty_ugly.l0 : Nat → List Int → List Int → Int → Option (List Int)
  | 0, _, _, _ => none
  | k + 1, x0, x1, x5 => if x5 < (x1.length : Int) then (if 0 ≤ x5 then (if (rd x1 x5) > 32 then (if x0.length < 140737488355328 then ((some (x0 ++ [rd x1 x5] : List Int)).bind fun y135 => (if (rd x1 x5) = 34 then (pretty_ugly.l1 k y135 x1 (wrap64 (x5 + 1))) else (pretty_ugly.l0 k y135 x1 (wrap64 (x5 + 1))))) else (none)) else (pretty_ugly.l0 k x0 x1 (wrap64 (x5 + 1)))) else (none)) else (some x0)
def pretty_ugly.l1 : Nat → List Int → List Int → Int → Option (List Int)
  | 0, _, _, _ => none
  | k + 1, x0, x1, x5 => if x5 < (x1.length : Int) then (if 0 ≤ x5 then (if x0.length < 140737488355328 then ((some (x0 ++ [rd x1 x5] : List Int)).bind fun y140 => (if (rd x1 x5) = 34 then (pretty_ugly.l2 k y140 x1 x5 (wrap64 ((y140.length : Int) - 2))) else (pretty_ugly.l1 k y140 x1 (wrap64 (x5 + 1))))) else (none)) else (none)) else (pretty_ugly.l0 k x0 x1 (wrap64 (x5 + 1)))
def pretty_ugly.l2 : Nat → List Int → List Int → Int → Int → Option (List Int)
  | 0, _, _, _, _ => none
  | k + 1, x0, x1, x5, x6 => if 0 ≤ x6 then (if x6 < (x0.length : Int) then (if (rd x0 x6) = 92 then (pretty_ugly.l2 k x0 x1 x5 (wrap64 (x6 - 1))) else (if (Int.tmod (wrap64 (x6 - (wrap64 ((x0.length : Int) - 1)))) 2) = 0 then (pretty_ugly.l1 k x0 x1 (wrap64 (x5 + 1))) else (pretty_ugly.l0 k x0 x1 (wrap64 (x5 + 1))))) else (none)) else (none)
end
def pretty_ugly.f (k : Nat) (l0 : List Int) (l1 : List Int) : Option (List Int) := if 0 ≤ (l0.length : Int) then (pretty_ugly.l0 k (l0.take (0 : Int).toNat) l1 0) else (none)
set_option maxHeartbeats 8000000 in
set_option maxRecDepth 100000 in
theorem pretty_ugly.calls (k : Nat) (P0_ : Nat → Prop) (u9000_ : Value) (l0 : List Int) (A1 : Option Addr) (c1 : Nat) (l1 : List Int) (r : List Int) (w0 w : World) (hB : Below w0.heap.size w0 w) (ho0 : Kd.R (Kd.int .u8) 5 w w0.heap.size P0_ u9000_ l0) (hr1 : ∀ W_, Kept w W_ (fun k_ => P0_ k_) → Kd.C (Kd.int .u8) W_ A1 l1.length l1) (hc1 : l1.length ≤ c1) (h : pretty_ugly.f k l0 l1 = some r) :
    Calls Tryz.prog 191 #[u9000_, .slice A1 l1.length c1] w fun e w' => ∃ v0_ : Value, e = .returned (v0_) ∧ Kd.R (Kd.int .u8) 5 w' w0.heap.size (fun k_ => (P0_ k_ ∨ w.heap.size ≤ k_)) v0_ r ∧ Below w0.heap.size w0 w' ∧ Kept w w' (fun k_ => P0_ k_) := by
  have HO0 := Aside0.mk (show Kd.R (Kd.int .u8) 5 w w0.heap.size (fun k_ => (P0_ k_ ∨ w.heap.size ≤ k_)) u9000_ l0 from Kd.R_mono ho0 (fun k_ hk => (.inl hk)))
  have HR1 := Aside0.mk hr1
  have HC1 := Aside0.mk hc1
  clear hr1 hc1
  have HK := Aside0.mk (Kept.refl w (fun k_ => P0_ k_))
  have HW0 := Aside0.mk hB.size
  have HB := Aside0.mk hB
  clear hB
  have H : (if 0 ≤ (l0.length : Int) then (pretty_ugly.l0 k (l0.take (0 : Int).toNat) l1 0) else (none)) = some r := h
  clear h
  by_cases c3 : 0 ≤ (l0.length : Int)
  · rw [if_pos c3] at H
    have c3b0 := eq_true c3
    have c3b1 : decide (0 ≤ (l0.length : Int)) = true := decide_eq_true c3
    clear c3
    obtain ⟨y130, hy130⟩ : ∃ y_ : List Int, y_ = (l0.take (0 : Int).toNat) := ⟨_, rfl⟩
    replace H : (pretty_ugly.l0 k y130 l1 0) = some r := by first | (rw [hy130]; with_reducible exact H) | (have H2_ := (Option.bind_some _ _).symm.trans H; rw [hy130]; with_reducible exact H2_) | (have H2_ := (Option.bind_some _ _).symm.trans H; with_reducible exact H2_) | with_reducible exact H | (rw [hy130]; exact H) | exact H
    have Ny130 := Aside0.mk hy130
    clear hy130
    have H' := Aside0.mk H
    clear H
    obtain ⟨Ao4, co4, eo4⟩ := Kd.R_slice HO0.out
    subst eo4
    have q5 : (0 : Int) ≤ ((l0.length : Int) : Int) := of_decide_eq_true (by first | (with_reducible assumption) | assumption)
    obtain ⟨i05, hi05, _, hsz5, _⟩ := info_parts info5
    have hcut5 := cut_to (P := Tryz.prog) 74 5 .i64 Tryz.underlying74 hi05 Ao4 l0.length co4 0 (by omega) q5 (Kd.R_reads' HO0.out).2.1
    have hr5 := Kd.R_take (m := (0 : Int).toNat) HO0.out (by omega)
    have hy5 : y130.length = (0 : Int).toNat := (by rw [Ny130.out, List.length_take]; omega)
    rw [← Ny130.out] at hr5
    rw [← hy5] at hr5 hcut5
    clear hy5 hi05 hsz5 HO0
    have HO132 := Aside0.mk hr5
    clear hr5
    replace q5 := eq_true q5
    go_enter Tryz.func191, Tryz.ntmps191
    go_wp2
    go_loopg [0, 5] k (fun kq v0 v5 w' => ∃ (x0_1 : List Int) (x5_1 : Int), v5 = .int .i64 x5_1 ∧ Aside0 (pretty_ugly.l0 kq x0_1 l1 x5_1 = some r) ∧ Aside0 (kq ≤ k) ∧ Aside0 (Kd.R (Kd.int .u8) 5 w' w0.heap.size (fun k_ => (P0_ k_ ∨ w.heap.size ≤ k_)) v0 x0_1) ∧ Aside0 (Kept w w' (fun k_ => P0_ k_)) ∧ Aside0 (Below w0.heap.size w0 w'))
    case atStart => exact ⟨(y130), (0), (by first | rfl | (simp; done) | (simp [*]; done)), H', ⟨Nat.le_refl _⟩, ⟨by (with_reducible repeat (first | apply Kd.R_alloc | apply Kd.R_drewN | apply Kd.R_drew)); exact HO132.out⟩, ⟨tc11⟩, ⟨tc4⟩⟩
    case round =>
      clear H'
      try clear c1
      try clear p2
      try clear c3
      try clear c3b0
      try clear c3b1
      try clear q5
      try clear q5
      obtain ⟨x0_1, x5_1, rfl, HA, HK1, HO_0, HK, HB⟩ := hrel
      cases gk with
      | zero => exact absurd HA.out (by simp [pretty_ugly.l0])
      | succ k1 =>
        have H := HA.out
        clear HA
        simp only [pretty_ugly.l0] at H
        by_cases c6 : x5_1 < (l1.length : Int)
        · rw [if_pos c6] at H
          have c6b0 : decide (x5_1 < (l1.length : Int)) = true := decide_eq_true c6
          clear c6
          by_cases c7 : 0 ≤ x5_1
          · rw [if_pos c7] at H
            have c7b0 : decide (0 ≤ x5_1) = true := decide_eq_true c7
            clear c7
            by_cases c8 : (rd l1 x5_1) > 32
            · rw [if_pos c8] at H
              have c8b0 : decide (32 < (rd l1 x5_1)) = true := decide_eq_true c8
              clear c8
              by_cases c9 : x0_1.length < 140737488355328
              · rw [if_pos c9] at H
                have LMc9 := Aside0.mk c9
                clear c9
                obtain ⟨y135, hy135⟩ : ∃ y_ : List Int, y_ = (x0_1 ++ [rd l1 x5_1]) := ⟨_, rfl⟩
                replace H : (if (rd l1 x5_1) = 34 then (pretty_ugly.l1 k1 y135 l1 (wrap64 (x5_1 + 1))) else (pretty_ugly.l0 k1 y135 l1 (wrap64 (x5_1 + 1)))) = some r := by first | (rw [hy135]; with_reducible exact H) | (have H2_ := (Option.bind_some _ _).symm.trans H; rw [hy135]; with_reducible exact H2_) | (have H2_ := (Option.bind_some _ _).symm.trans H; with_reducible exact H2_) | with_reducible exact H | (rw [hy135]; exact H) | exact H
                have Ny135 := Aside0.mk hy135
                clear hy135
                by_cases c10 : (rd l1 x5_1) = 34
                · rw [if_pos c10] at H
                  have c10b0 : ((rd l1 x5_1) == 34) = true := beq_iff_eq.mpr c10
                  have c10b1 : ((rd l1 x5_1) != 34) = false := bne_eq_false_iff_eq.mpr c10
                  clear c10
                  have H' := Aside0.mk H
                  clear H
                  have p133 : 0 ≤ (x5_1 : Int) := of_decide_eq_true (by first | (with_reducible assumption) | assumption)
                  have q133 : x5_1 < (l1.length : Int) := of_decide_eq_true (by first | (with_reducible assumption) | assumption)
                  obtain ⟨ad133, e133, hx133_0⟩ := Kd.at_int (Kd.C_kept_now HR1.out HK.out) x5_1 p133 q133
                  cases e133
                  replace p133 := eq_true p133
                  replace q133 := eq_true q133
                  have p134 : 0 ≤ (x5_1 : Int) := of_decide_eq_true (by first | (with_reducible assumption) | assumption)
                  have q134 : x5_1 < (l1.length : Int) := of_decide_eq_true (by first | (with_reducible assumption) | assumption)
                  obtain ⟨ad134, e134, hx134_0⟩ := Kd.at_int (Kd.C_kept_now HR1.out HK.out) x5_1 p134 q134
                  obtain rfl : ad133 = ad134 := (by injection e134)
                  replace p134 := eq_true p134
                  replace q134 := eq_true q134
                  go_wp2_with (first | ((with_reducible refine gate_builtin (b := .append) (xs := #[.tmp 20, .tmp 25]) rfl ?_); at_builtin; refine Kd.R_append (Kd.int .u8) (w0 := w0) w0.heap.size rfl (.tmp 20) (.tmp 25) 74 5 (.int .u8 0) 1 rfl Tryz.underlying74 info5 rfl (by decide) (by omega) u0 x0_1 (rd l1 x5_1) [.int .u8 (rd l1 x5_1)] (fun k_ => (P0_ k_ ∨ w.heap.size ≤ k_)) (fun _ => False) rfl rfl ?aP (fun _ hk => hk.elim) ?aF ?aO ?aB ?aS ?aL ?_; (case aP => exact rfl); (case aB => exact tc35); (case aF => exact tc38); (case aO => exact tc54); (case aS => exact tc33); (case aL => have := LMc9.out; omega); intro v136 w11 ho hb hg hat; rw [← Ny135.out] at ho; have n0_ := Aside0.mk (hb); have n1_ := Aside0.mk (Kept.of_grown (S := (fun k_ => P0_ k_)) hg tc11 (fun k_ e_ => (HO_0.out.1 k_ e_))); have n2_ := Aside0.mk (ho); clear HB; clear HK; clear HO_0; have HB := n0_; have HK := n1_; have HO137 := n2_; clear n0_ n1_ n2_; clear ho hb hg hat; have p138 : 0 ≤ (x5_1 : Int) := of_decide_eq_true (by first | (with_reducible assumption) | assumption); have q138 : x5_1 < (l1.length : Int) := of_decide_eq_true (by first | (with_reducible assumption) | assumption); obtain ⟨ad138, e138, hx138_0⟩ := Kd.at_int (Kd.C_kept_now HR1.out HK.out) x5_1 p138 q138; obtain rfl : ad133 = ad138 := (by injection e138); replace p138 := eq_true p138; replace q138 := eq_true q138))
                  go_loopg [0, 5] k1 (fun kq v0 v5 w' => ∃ (x0_2 : List Int) (x5_2 : Int), v5 = .int .i64 x5_2 ∧ Aside0 (pretty_ugly.l1 kq x0_2 l1 x5_2 = some r) ∧ Aside0 (kq ≤ k1) ∧ Aside0 (Kd.R (Kd.int .u8) 5 w' w0.heap.size (fun k_ => (P0_ k_ ∨ w.heap.size ≤ k_)) v0 x0_2) ∧ Aside0 (Kept w w' (fun k_ => P0_ k_)) ∧ Aside0 (Below w0.heap.size w0 w'))
                  case atStart => exact ⟨(y135), (wrap64 (x5_1 + 1)), (by first | rfl | (simp; done) | (simp [*]; done)), H', ⟨Nat.le_refl _⟩, ⟨by (with_reducible repeat (first | apply Kd.R_alloc | apply Kd.R_drewN | apply Kd.R_drew)); exact HO137.out⟩, ⟨tc11⟩, ⟨tc4⟩⟩
                  case round =>
                    clear H'
                    try clear c1
                    try clear p1
                    try clear q1
                    try clear hx1
                    try clear p2
                    try clear c3
                    try clear c3b0
                    try clear c3b1
                    try clear q5
                    try clear c6
                    try clear c6b0
                    try clear p6
                    try clear c7
                    try clear c7b0
                    try clear c8
                    try clear c8b0
                    try clear c9
                    try clear c10
                    try clear c10b0
                    try clear c10b1
                    try clear hx133_0
                    try clear hx134_0
                    try clear hx138_0
                    try clear p133
                    try clear p134
                    try clear p138
                    try clear p2
                    try clear q133
                    try clear q134
                    try clear q138
                    try clear q5
                    obtain ⟨x0_2, x5_2, rfl, HA, HK2, HO_0, HK, HB⟩ := hrel
                    cases gk with
                    | zero => exact absurd HA.out (by simp [pretty_ugly.l1])
                    | succ k2 =>
                      have H := HA.out
                      clear HA
                      simp only [pretty_ugly.l1] at H
                      by_cases c12 : x5_2 < (l1.length : Int)
                      · rw [if_pos c12] at H
                        have c12b0 : decide (x5_2 < (l1.length : Int)) = true := decide_eq_true c12
                        clear c12
                        by_cases c13 : 0 ≤ x5_2
                        · rw [if_pos c13] at H
                          have c13b0 : decide (0 ≤ x5_2) = true := decide_eq_true c13
                          clear c13
                          by_cases c14 : x0_2.length < 140737488355328
                          · rw [if_pos c14] at H
                            have LMc14 := Aside0.mk c14
                            clear c14
                            obtain ⟨y140, hy140⟩ : ∃ y_ : List Int, y_ = (x0_2 ++ [rd l1 x5_2]) := ⟨_, rfl⟩
                            replace H : (if (rd l1 x5_2) = 34 then (pretty_ugly.l2 k2 y140 l1 x5_2 (wrap64 ((y140.length : Int) - 2))) else (pretty_ugly.l1 k2 y140 l1 (wrap64 (x5_2 + 1)))) = some r := by first | (rw [hy140]; with_reducible exact H) | (have H2_ := (Option.bind_some _ _).symm.trans H; rw [hy140]; with_reducible exact H2_) | (have H2_ := (Option.bind_some _ _).symm.trans H; with_reducible exact H2_) | with_reducible exact H | (rw [hy140]; exact H) | exact H
                            have Ny140 := Aside0.mk hy140
                            clear hy140
                            by_cases c15 : (rd l1 x5_2) = 34
                            · rw [if_pos c15] at H
                              have c15b0 : ((rd l1 x5_2) == 34) = true := beq_iff_eq.mpr c15
                              have c15b1 : ((rd l1 x5_2) != 34) = false := bne_eq_false_iff_eq.mpr c15
                              clear c15
                              have H' := Aside0.mk H
                              clear H
                              have p139 : 0 ≤ (x5_2 : Int) := of_decide_eq_true (by first | (with_reducible assumption) | assumption)
                              have q139 : x5_2 < (l1.length : Int) := of_decide_eq_true (by first | (with_reducible assumption) | assumption)
                              obtain ⟨ad139, e139, hx139_0⟩ := Kd.at_int (Kd.C_kept_now HR1.out HK.out) x5_2 p139 q139
                              obtain rfl : ad133 = ad139 := (by injection e139)
                              replace p139 := eq_true p139
                              replace q139 := eq_true q139
                              go_wp2_with (first | ((with_reducible refine gate_builtin (b := .append) (xs := #[.tmp 40, .tmp 45]) rfl ?_); at_builtin; refine Kd.R_append (Kd.int .u8) (w0 := w0) w0.heap.size rfl (.tmp 40) (.tmp 45) 74 5 (.int .u8 0) 1 rfl Tryz.underlying74 info5 rfl (by decide) (by omega) u0 x0_2 (rd l1 x5_2) [.int .u8 (rd l1 x5_2)] (fun k_ => (P0_ k_ ∨ w.heap.size ≤ k_)) (fun _ => False) rfl rfl ?aP (fun _ hk => hk.elim) ?aF ?aO ?aB ?aS ?aL ?_; (case aP => exact rfl); (case aB => exact tc35); (case aF => exact tc38); (case aO => exact tc54); (case aS => exact tc33); (case aL => have := LMc14.out; omega); intro v141 w16 ho hb hg hat; rw [← Ny140.out] at ho; have n0_ := Aside0.mk (hb); have n1_ := Aside0.mk (Kept.of_grown (S := (fun k_ => P0_ k_)) hg tc11 (fun k_ e_ => (HO_0.out.1 k_ e_))); have n2_ := Aside0.mk (ho); clear HB; clear HK; clear HO_0; have HB := n0_; have HK := n1_; have HO142 := n2_; clear n0_ n1_ n2_; clear ho hb hg hat; have p143 : 0 ≤ (x5_2 : Int) := of_decide_eq_true (by first | (with_reducible assumption) | assumption); have q143 : x5_2 < (l1.length : Int) := of_decide_eq_true (by first | (with_reducible assumption) | assumption); obtain ⟨ad143, e143, hx143_0⟩ := Kd.at_int (Kd.C_kept_now HR1.out HK.out) x5_2 p143 q143; obtain rfl : ad133 = ad143 := (by injection e143); replace p143 := eq_true p143; replace q143 := eq_true q143; obtain ⟨Ao17, co17, eo17⟩ := Kd.R_slice HO142.out; subst eo17))
                              go_loopg [6] k2 (fun kq v6 w' => ∃ (x6_3 : Int), v6 = .int .i64 x6_3 ∧ Aside0 (pretty_ugly.l2 kq y140 l1 x5_2 x6_3 = some r) ∧ Aside0 (kq ≤ k2) ∧ Aside0 (Kd.R (Kd.int .u8) 5 w' w0.heap.size (fun k_ => (P0_ k_ ∨ w.heap.size ≤ k_)) (.slice Ao17 y140.length co17) y140) ∧ Aside0 (Kept w w' (fun k_ => P0_ k_)) ∧ Aside0 (Below w0.heap.size w0 w'))
                              case atStart => exact ⟨(wrap64 ((y140.length : Int) - 2)), (by first | rfl | (simp; done) | (simp [*]; done)), H', ⟨Nat.le_refl _⟩, ⟨by (with_reducible repeat (first | apply Kd.R_alloc | apply Kd.R_drewN | apply Kd.R_drew)); exact HO142.out⟩, ⟨tc11⟩, ⟨tc4⟩⟩
                              case round =>
                                clear H'
                                try clear c1
                                try clear p1
                                try clear q1
                                try clear hx1
                                try clear p2
                                try clear c3
                                try clear c3b0
                                try clear c3b1
                                try clear q5
                                try clear c6
                                try clear c6b0
                                try clear p6
                                try clear c7
                                try clear c7b0
                                try clear c8
                                try clear c8b0
                                try clear c9
                                try clear c10
                                try clear c10b0
                                try clear c10b1
                                try clear c12
                                try clear c12b0
                                try clear c13
                                try clear c13b0
                                try clear p13
                                try clear q13
                                try clear hx13
                                try clear c14
                                try clear p14
                                try clear q14
                                try clear hx14
                                try clear c15
                                try clear c15b0
                                try clear c15b1
                                try clear hx133_0
                                try clear hx134_0
                                try clear hx138_0
                                try clear hx139_0
                                try clear hx143_0
                                try clear p1
                                try clear p133
                                try clear p134
                                try clear p138
                                try clear p139
                                try clear p143
                                try clear p2
                                try clear p6
                                try clear q1
                                try clear q133
                                try clear q134
                                try clear q138
                                try clear q139
                                try clear q143
                                try clear q5
                                obtain ⟨x6_3, rfl, HA, HK3, HO_0, HK, HB⟩ := hrel
                                cases gk with
                                | zero => exact absurd HA.out (by simp [pretty_ugly.l2])
                                | succ k3 =>
                                  have H := HA.out
                                  clear HA
                                  simp only [pretty_ugly.l2] at H
                                  by_cases c18 : 0 ≤ x6_3
                                  · rw [if_pos c18] at H
                                    have c18b0 : decide (0 ≤ x6_3) = true := decide_eq_true c18
                                    clear c18
                                    by_cases c19 : x6_3 < (y140.length : Int)
                                    · rw [if_pos c19] at H
                                      have c19b0 : decide (x6_3 < (y140.length : Int)) = true := decide_eq_true c19
                                      clear c19
                                      by_cases c20 : (rd y140 x6_3) = 92
                                      · rw [if_pos c20] at H
                                        have c20b0 : ((rd y140 x6_3) == 92) = true := beq_iff_eq.mpr c20
                                        have c20b1 : ((rd y140 x6_3) != 92) = false := bne_eq_false_iff_eq.mpr c20
                                        clear c20
                                        have H' := Aside0.mk H
                                        clear H
                                        have p144 : 0 ≤ (x6_3 : Int) := of_decide_eq_true (by first | (with_reducible assumption) | assumption)
                                        have q144 : x6_3 < (y140.length : Int) := of_decide_eq_true (by first | (with_reducible assumption) | assumption)
                                        obtain ⟨ad144, e144, hx144_0⟩ := Kd.at_int (Kd.R_reads' HO_0.out).2.2 x6_3 p144 q144
                                        cases e144
                                        replace p144 := eq_true p144
                                        replace q144 := eq_true q144
                                        go_wp2
                                        go_roundg k3
                                        case measure => have := HK1.out; have := HK2.out; have := HK3.out; omega
                                        case rel => exact ⟨(wrap64 (x6_3 - 1)), (by first | rfl | (simp; done) | (simp [*]; done)), H', ⟨by have := HK1.out; have := HK2.out; have := HK3.out; omega⟩, ⟨by (with_reducible repeat (first | apply Kd.R_alloc | apply Kd.R_drewN | apply Kd.R_drew)); exact HO_0.out⟩, ⟨tc11⟩, ⟨tc4⟩⟩
                                      · rw [if_neg c20] at H
                                        have c20b0 : ((rd y140 x6_3) == 92) = false := beq_eq_false_iff_ne.mpr c20
                                        have c20b1 : ((rd y140 x6_3) != 92) = true := bne_iff_ne.mpr c20
                                        by_cases c21 : (Int.tmod (wrap64 (x6_3 - (wrap64 ((y140.length : Int) - 1)))) 2) = 0
                                        · rw [if_pos c21] at H
                                          have c21b0 : ((Int.tmod (wrap64 (x6_3 - (wrap64 ((y140.length : Int) - 1)))) 2) == 0) = true := beq_iff_eq.mpr c21
                                          have c21b1 : ((Int.tmod (wrap64 (x6_3 - (wrap64 ((y140.length : Int) - 1)))) 2) != 0) = false := bne_eq_false_iff_eq.mpr c21
                                          clear c21
                                          have H' := Aside0.mk H
                                          clear H
                                          have p144 : 0 ≤ (x6_3 : Int) := of_decide_eq_true (by first | (with_reducible assumption) | assumption)
                                          have q144 : x6_3 < (y140.length : Int) := of_decide_eq_true (by first | (with_reducible assumption) | assumption)
                                          obtain ⟨ad144, e144, hx144_0⟩ := Kd.at_int (Kd.R_reads' HO_0.out).2.2 x6_3 p144 q144
                                          cases e144
                                          replace p144 := eq_true p144
                                          replace q144 := eq_true q144
                                          go_wp2
                                          go_roundg k3
                                          case measure => have := HK1.out; have := HK2.out; have := HK3.out; omega
                                          case rel => exact ⟨(y140), (wrap64 (x5_2 + 1)), (by first | rfl | (simp; done) | (simp [*]; done)), H', ⟨by have := HK1.out; have := HK2.out; have := HK3.out; omega⟩, ⟨by (with_reducible repeat (first | apply Kd.R_alloc | apply Kd.R_drewN | apply Kd.R_drew)); exact HO_0.out⟩, ⟨tc11⟩, ⟨tc4⟩⟩
                                        · rw [if_neg c21] at H
                                          have c21b0 : ((Int.tmod (wrap64 (x6_3 - (wrap64 ((y140.length : Int) - 1)))) 2) == 0) = false := beq_eq_false_iff_ne.mpr c21
                                          have c21b1 : ((Int.tmod (wrap64 (x6_3 - (wrap64 ((y140.length : Int) - 1)))) 2) != 0) = true := bne_iff_ne.mpr c21
                                          have H' := Aside0.mk H
                                          clear H
                                          have p144 : 0 ≤ (x6_3 : Int) := of_decide_eq_true (by first | (with_reducible assumption) | assumption)
                                          have q144 : x6_3 < (y140.length : Int) := of_decide_eq_true (by first | (with_reducible assumption) | assumption)
                                          obtain ⟨ad144, e144, hx144_0⟩ := Kd.at_int (Kd.R_reads' HO_0.out).2.2 x6_3 p144 q144
                                          cases e144
                                          replace p144 := eq_true p144
                                          replace q144 := eq_true q144
                                          go_wp2
                                          go_roundg k3
                                          case measure => have := HK1.out; have := HK2.out; have := HK3.out; omega
                                          case rel => exact ⟨(y140), (wrap64 (x5_2 + 1)), (by first | rfl | (simp; done) | (simp [*]; done)), H', ⟨by have := HK1.out; have := HK2.out; have := HK3.out; omega⟩, ⟨by (with_reducible repeat (first | apply Kd.R_alloc | apply Kd.R_drewN | apply Kd.R_drew)); exact HO_0.out⟩, ⟨tc11⟩, ⟨tc4⟩⟩
                                    · rw [if_neg c19] at H
                                      exact absurd H (by simp)
                                  · rw [if_neg c18] at H
                                    exact absurd H (by simp)
                            · rw [if_neg c15] at H
                              have c15b0 : ((rd l1 x5_2) == 34) = false := beq_eq_false_iff_ne.mpr c15
                              have c15b1 : ((rd l1 x5_2) != 34) = true := bne_iff_ne.mpr c15
                              have H' := Aside0.mk H
                              clear H
                              have p139 : 0 ≤ (x5_2 : Int) := of_decide_eq_true (by first | (with_reducible assumption) | assumption)
                              have q139 : x5_2 < (l1.length : Int) := of_decide_eq_true (by first | (with_reducible assumption) | assumption)
                              obtain ⟨ad139, e139, hx139_0⟩ := Kd.at_int (Kd.C_kept_now HR1.out HK.out) x5_2 p139 q139
                              obtain rfl : ad133 = ad139 := (by injection e139)
                              replace p139 := eq_true p139
                              replace q139 := eq_true q139
                              go_wp2_with (first | ((with_reducible refine gate_builtin (b := .append) (xs := #[.tmp 40, .tmp 45]) rfl ?_); at_builtin; refine Kd.R_append (Kd.int .u8) (w0 := w0) w0.heap.size rfl (.tmp 40) (.tmp 45) 74 5 (.int .u8 0) 1 rfl Tryz.underlying74 info5 rfl (by decide) (by omega) u0 x0_2 (rd l1 x5_2) [.int .u8 (rd l1 x5_2)] (fun k_ => (P0_ k_ ∨ w.heap.size ≤ k_)) (fun _ => False) rfl rfl ?aP (fun _ hk => hk.elim) ?aF ?aO ?aB ?aS ?aL ?_; (case aP => exact rfl); (case aB => exact tc35); (case aF => exact tc38); (case aO => exact tc54); (case aS => exact tc33); (case aL => have := LMc14.out; omega); intro v141 w22 ho hb hg hat; rw [← Ny140.out] at ho; have n0_ := Aside0.mk (hb); have n1_ := Aside0.mk (Kept.of_grown (S := (fun k_ => P0_ k_)) hg tc11 (fun k_ e_ => (HO_0.out.1 k_ e_))); have n2_ := Aside0.mk (ho); clear HB; clear HK; clear HO_0; have HB := n0_; have HK := n1_; have HO142 := n2_; clear n0_ n1_ n2_; clear ho hb hg hat; have p143 : 0 ≤ (x5_2 : Int) := of_decide_eq_true (by first | (with_reducible assumption) | assumption); have q143 : x5_2 < (l1.length : Int) := of_decide_eq_true (by first | (with_reducible assumption) | assumption); obtain ⟨ad143, e143, hx143_0⟩ := Kd.at_int (Kd.C_kept_now HR1.out HK.out) x5_2 p143 q143; obtain rfl : ad133 = ad143 := (by injection e143); replace p143 := eq_true p143; replace q143 := eq_true q143))
                              go_roundg k2
                              case measure => have := HK1.out; have := HK2.out; omega
                              case rel => exact ⟨(y140), (wrap64 (x5_2 + 1)), (by first | rfl | (simp; done) | (simp [*]; done)), H', ⟨by have := HK1.out; have := HK2.out; omega⟩, ⟨by (with_reducible repeat (first | apply Kd.R_alloc | apply Kd.R_drewN | apply Kd.R_drew)); exact HO142.out⟩, ⟨tc11⟩, ⟨tc4⟩⟩
                          · rw [if_neg c14] at H
                            exact absurd H (by simp)
                        · rw [if_neg c13] at H
                          exact absurd H (by simp)
                      · rw [if_neg c12] at H
                        have c12b0 : decide (x5_2 < (l1.length : Int)) = false := decide_eq_false c12
                        clear c12
                        have H' := Aside0.mk H
                        clear H
                        go_wp2
                        go_roundg k2
                        case measure => have := HK1.out; have := HK2.out; omega
                        case rel => exact ⟨(x0_2), (wrap64 (x5_2 + 1)), (by first | rfl | (simp; done) | (simp [*]; done)), H', ⟨by have := HK1.out; have := HK2.out; omega⟩, ⟨by (with_reducible repeat (first | apply Kd.R_alloc | apply Kd.R_drewN | apply Kd.R_drew)); exact HO_0.out⟩, ⟨tc11⟩, ⟨tc4⟩⟩
                · rw [if_neg c10] at H
                  have c10b0 : ((rd l1 x5_1) == 34) = false := beq_eq_false_iff_ne.mpr c10
                  have c10b1 : ((rd l1 x5_1) != 34) = true := bne_iff_ne.mpr c10
                  have H' := Aside0.mk H
                  clear H
                  have p133 : 0 ≤ (x5_1 : Int) := of_decide_eq_true (by first | (with_reducible assumption) | assumption)
                  have q133 : x5_1 < (l1.length : Int) := of_decide_eq_true (by first | (with_reducible assumption) | assumption)
                  obtain ⟨ad133, e133, hx133_0⟩ := Kd.at_int (Kd.C_kept_now HR1.out HK.out) x5_1 p133 q133
                  cases e133
                  replace p133 := eq_true p133
                  replace q133 := eq_true q133
                  have p134 : 0 ≤ (x5_1 : Int) := of_decide_eq_true (by first | (with_reducible assumption) | assumption)
                  have q134 : x5_1 < (l1.length : Int) := of_decide_eq_true (by first | (with_reducible assumption) | assumption)
                  obtain ⟨ad134, e134, hx134_0⟩ := Kd.at_int (Kd.C_kept_now HR1.out HK.out) x5_1 p134 q134
                  obtain rfl : ad133 = ad134 := (by injection e134)
                  replace p134 := eq_true p134
                  replace q134 := eq_true q134
                  go_wp2_with (first | ((with_reducible refine gate_builtin (b := .append) (xs := #[.tmp 20, .tmp 25]) rfl ?_); at_builtin; refine Kd.R_append (Kd.int .u8) (w0 := w0) w0.heap.size rfl (.tmp 20) (.tmp 25) 74 5 (.int .u8 0) 1 rfl Tryz.underlying74 info5 rfl (by decide) (by omega) u0 x0_1 (rd l1 x5_1) [.int .u8 (rd l1 x5_1)] (fun k_ => (P0_ k_ ∨ w.heap.size ≤ k_)) (fun _ => False) rfl rfl ?aP (fun _ hk => hk.elim) ?aF ?aO ?aB ?aS ?aL ?_; (case aP => exact rfl); (case aB => exact tc35); (case aF => exact tc38); (case aO => exact tc54); (case aS => exact tc33); (case aL => have := LMc9.out; omega); intro v136 w23 ho hb hg hat; rw [← Ny135.out] at ho; have n0_ := Aside0.mk (hb); have n1_ := Aside0.mk (Kept.of_grown (S := (fun k_ => P0_ k_)) hg tc11 (fun k_ e_ => (HO_0.out.1 k_ e_))); have n2_ := Aside0.mk (ho); clear HB; clear HK; clear HO_0; have HB := n0_; have HK := n1_; have HO137 := n2_; clear n0_ n1_ n2_; clear ho hb hg hat; have p138 : 0 ≤ (x5_1 : Int) := of_decide_eq_true (by first | (with_reducible assumption) | assumption); have q138 : x5_1 < (l1.length : Int) := of_decide_eq_true (by first | (with_reducible assumption) | assumption); obtain ⟨ad138, e138, hx138_0⟩ := Kd.at_int (Kd.C_kept_now HR1.out HK.out) x5_1 p138 q138; obtain rfl : ad133 = ad138 := (by injection e138); replace p138 := eq_true p138; replace q138 := eq_true q138))
                  go_roundg k1
                  case measure => have := HK1.out; omega
                  case rel => exact ⟨(y135), (wrap64 (x5_1 + 1)), (by first | rfl | (simp; done) | (simp [*]; done)), H', ⟨by have := HK1.out; omega⟩, ⟨by (with_reducible repeat (first | apply Kd.R_alloc | apply Kd.R_drewN | apply Kd.R_drew)); exact HO137.out⟩, ⟨tc11⟩, ⟨tc4⟩⟩
              · rw [if_neg c9] at H
                exact absurd H (by simp)
            · rw [if_neg c8] at H
              have c8b0 : decide (32 < (rd l1 x5_1)) = false := decide_eq_false c8
              clear c8
              have H' := Aside0.mk H
              clear H
              have p133 : 0 ≤ (x5_1 : Int) := of_decide_eq_true (by first | (with_reducible assumption) | assumption)
              have q133 : x5_1 < (l1.length : Int) := of_decide_eq_true (by first | (with_reducible assumption) | assumption)
              obtain ⟨ad133, e133, hx133_0⟩ := Kd.at_int (Kd.C_kept_now HR1.out HK.out) x5_1 p133 q133
              cases e133
              replace p133 := eq_true p133
              replace q133 := eq_true q133
              go_wp2
              go_roundg k1
              case measure => have := HK1.out; omega
              case rel => exact ⟨(x0_1), (wrap64 (x5_1 + 1)), (by first | rfl | (simp; done) | (simp [*]; done)), H', ⟨by have := HK1.out; omega⟩, ⟨by (with_reducible repeat (first | apply Kd.R_alloc | apply Kd.R_drewN | apply Kd.R_drew)); exact HO_0.out⟩, ⟨tc11⟩, ⟨tc4⟩⟩
          · rw [if_neg c7] at H
            exact absurd H (by simp)
        · rw [if_neg c6] at H
          have c6b0 : decide (x5_1 < (l1.length : Int)) = false := decide_eq_false c6
          clear c6
          obtain rfl := Option.some.inj H
          go_wp2
          go_ret
          exact ⟨_, tc12, by (with_reducible repeat (first | apply Kd.R_alloc | apply Kd.R_drewN | apply Kd.R_drew)); exact HO_0.out, tc4, tc11⟩
  · rw [if_neg c3] at H
    exact absurd H (by simp)
end Go.Proofs.YtookccnmgoocpaaGreatDoor.PTwo
