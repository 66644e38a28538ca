/- pretty's full printing of a value: the walk of any value. -/
import Derived.Test.YtookccnmgoocpaaGreatDoorUgPrD
import Derived.Test.YtookccnmgoocpaaGreatDoorUgWords
namespace Go.Proofs.YtookccnmgoocpaaGreatDoor.PTwo
open Go.RowKit Go.Proofs.YtookccnmgoocpaaGreatDoorW.PrintWords Go.Proofs.YtookccnmgoocpaaGreatDoorW.PrintLast Go.Proofs.YtookccnmgoocpaaGreatDoorW.PrintMore
attribute [local go_sem] max2_int min2_int max_two min_two max_three min_three max_four min_four   -- for this text's walks alone
set_option linter.unusedVariables false
set_option linter.unusedSimpArgs false
theorem nan_no58 (l : List Int) (i : Nat) (hlt : i < l.length) (h : rd l (i : Nat) = 58) : pretty_isNaNOrInf.f (l.drop i) = some false := by
  have e0 : rd (l.drop i) 0 = rd l (i : Nat) := rd_drop l i 0
  unfold pretty_isNaNOrInf.f
  rw [e0, List.length_drop]
  rw [if_pos (by omega), if_neg (by omega), if_neg (by omega), if_neg (by omega), if_neg (by omega), if_neg (by omega)]
set_option maxHeartbeats 8000000 in
set_option maxRecDepth 100000 in
theorem fullAny_step (k : Nat) (ih : ∀ m, m < k → FullArrC m ∧ FullObjC m) : FullAnyC k := by
  intro u0 o A c l i tabs nl r j nl2 ok w0 w hB ho0 hJ hc hm hi h
  have HO := Aside0.mk ho0
  have HB := Aside0.mk hB
  have HJ := Aside0.mk hJ
  have H0 := Aside0.mk h
  clear ho0 hB hJ h
  go_enter Tryz.func122, Tryz.ntmps122
  go_wp2_with fail
  go_loopg [2] k (fun kq v2 w' => ∃ (i' : Nat), v2 = .int .i64 (i' : Nat) ∧ Aside0 (fullAny kq l o i' tabs nl = some (r, j, nl2, ok)) ∧ Aside0 (kq ≤ k) ∧ Aside0 (Kd.R (Kd.int .u8) 5 w' w0.heap.size (fun _ => True) u0 o) ∧ Aside0 (Below w0.heap.size w0 w'))
  case atStart => exact ⟨i, rfl, H0, ⟨Nat.le_refl _⟩, HO, HB⟩
  case round =>
    clear HO HB H0
    obtain ⟨i', rfl, HA, HK1, HO, HB⟩ := hrel
    cases gk with
    | zero => exact absurd HA.out (by simp [fullAny])
    | succ k1 =>
      have hk1 := HK1.out
      have H := HA.out
      clear HA
      rw [fullAny] at H
      by_cases hlo2 : o.length ≤ 1099511627776
      case neg => rw [if_neg hlo2] at H; cases H
      rw [if_pos hlo2] at H
      by_cases hlt : i' < l.length
      case neg => rw [if_neg hlt] at H; cases H
      rw [if_pos hlt] at H
      have d1 : decide (i' < l.length) = true := decide_eq_true hlt
      obtain ⟨adj, ej, hxj⟩ := Kd.at_int HJ.out (i' : Nat) (Int.natCast_nonneg _) (by omega); cases ej; replace hxj := (HB.out.cell (World.block_lt_of_cell? w0 _ hxj)).trans hxj; simp only [Int.toNat_natCast] at hxj
      by_cases h32 : rd l (i' : Nat) ≤ 32
      · rw [if_pos (.inl h32)] at H
        have c32 : decide (rd l (i' : Nat) ≤ 32) = true := decide_eq_true h32
        have HN := Aside0.mk H
        clear H
        go_wp2_with fail
        go_roundg k1
        case measure => omega
        case rel => exact ⟨i' + 1, by first | (simp; done) | (simp; unfold wrap64; omega), HN, ⟨by omega⟩, HO, HB⟩
      have c32 : decide (rd l (i' : Nat) ≤ 32) = false := decide_eq_false h32
      by_cases h44 : rd l (i' : Nat) = 44
      · rw [if_pos (.inr (.inl h44))] at H
        have HN := Aside0.mk H
        clear H
        have c34 : (rd l (i' : Nat) == 34) = false := beq_eq_false_iff_ne.2 (by omega)
        have c45 : (rd l (i' : Nat) == 45) = false := beq_eq_false_iff_ne.2 (by omega)
        have c123 : (rd l (i' : Nat) == 123) = false := beq_eq_false_iff_ne.2 (by omega)
        have c91 : (rd l (i' : Nat) == 91) = false := beq_eq_false_iff_ne.2 (by omega)
        have c116 : (rd l (i' : Nat) == 116) = false := beq_eq_false_iff_ne.2 (by omega)
        have c102 : (rd l (i' : Nat) == 102) = false := beq_eq_false_iff_ne.2 (by omega)
        have c110 : (rd l (i' : Nat) == 110) = false := beq_eq_false_iff_ne.2 (by omega)
        have cd0 : decide (48 ≤ rd l (i' : Nat)) = false := decide_eq_false (by omega)
        have cd1 : decide (rd l (i' : Nat) ≤ 57) = true := decide_eq_true (by omega)
        go_wp2_with fail
        have hcn := pretty_isNaNOrInf.calls (some (adj.add i')) (c - i') (l.drop i') false wr (C_tail (Kd.C_below HJ.out HB.out) adj rfl i' (by omega)) (by rw [List.length_drop]; omega) (nan_no l i' hlt (by omega))
        rw [List.length_drop] at hcn
        refine hcn.mono ?_
        rintro e w' ⟨rfl, nd, rfl⟩
        clear hcn
        have n0_ := Aside0.mk (Kd.R_drewN HO.out nd)
        have n1_ := Aside0.mk (pw_below_drewN HB.out nd)
        have n2_ := (show (wr.drewN nd).cell? (adj.add i') = some (.int .u8 (rd l (i' : Nat))) from hxj)
        clear HO HB hxj
        have HO := n0_
        have HB := n1_
        have hxj := n2_
        clear n0_ n1_ n2_
        generalize wr.drewN nd = wn at HO HB hxj ⊢
        go_wp2
        go_roundg k1
        case measure => omega
        case rel => exact ⟨i' + 1, by first | (simp; done) | (simp; unfold wrap64; omega), HN, ⟨by omega⟩, HO, HB⟩
      by_cases h58 : rd l (i' : Nat) = 58
      · rw [if_pos (.inr (.inr h58))] at H
        have HN := Aside0.mk H
        clear H
        have c34 : (rd l (i' : Nat) == 34) = false := beq_eq_false_iff_ne.2 (by omega)
        have c45 : (rd l (i' : Nat) == 45) = false := beq_eq_false_iff_ne.2 (by omega)
        have c123 : (rd l (i' : Nat) == 123) = false := beq_eq_false_iff_ne.2 (by omega)
        have c91 : (rd l (i' : Nat) == 91) = false := beq_eq_false_iff_ne.2 (by omega)
        have c116 : (rd l (i' : Nat) == 116) = false := beq_eq_false_iff_ne.2 (by omega)
        have c102 : (rd l (i' : Nat) == 102) = false := beq_eq_false_iff_ne.2 (by omega)
        have c110 : (rd l (i' : Nat) == 110) = false := beq_eq_false_iff_ne.2 (by omega)
        have cd0 : decide (48 ≤ rd l (i' : Nat)) = true := decide_eq_true (by omega)
        have cd1 : decide (rd l (i' : Nat) ≤ 57) = false := decide_eq_false (by omega)
        go_wp2_with fail
        have hcn := pretty_isNaNOrInf.calls (some (adj.add i')) (c - i') (l.drop i') false wr (C_tail (Kd.C_below HJ.out HB.out) adj rfl i' (by omega)) (by rw [List.length_drop]; omega) (nan_no58 l i' hlt h58)
        rw [List.length_drop] at hcn
        refine hcn.mono ?_
        rintro e w' ⟨rfl, nd, rfl⟩
        clear hcn
        have n0_ := Aside0.mk (Kd.R_drewN HO.out nd)
        have n1_ := Aside0.mk (pw_below_drewN HB.out nd)
        have n2_ := (show (wr.drewN nd).cell? (adj.add i') = some (.int .u8 (rd l (i' : Nat))) from hxj)
        clear HO HB hxj
        have HO := n0_
        have HB := n1_
        have hxj := n2_
        clear n0_ n1_ n2_
        generalize wr.drewN nd = wn at HO HB hxj ⊢
        go_wp2
        go_roundg k1
        case measure => omega
        case rel => exact ⟨i' + 1, by first | (simp; done) | (simp; unfold wrap64; omega), HN, ⟨by omega⟩, HO, HB⟩
      rw [if_neg (by simp [h32, h44, h58])] at H
      by_cases h123 : rd l (i' : Nat) = 123
      · rw [if_pos h123] at H
        have HN := Aside0.mk H
        clear H
        have c34 : (rd l (i' : Nat) == 34) = false := beq_eq_false_iff_ne.2 (by omega)
        have c45 : (rd l (i' : Nat) == 45) = false := beq_eq_false_iff_ne.2 (by omega)
        have c123 : (rd l (i' : Nat) == 123) = true := beq_iff_eq.2 h123
        have c91 : (rd l (i' : Nat) == 123) = true := beq_iff_eq.2 h123
        have c116 : (rd l (i' : Nat) == 116) = false := beq_eq_false_iff_ne.2 (by omega)
        have c102 : (rd l (i' : Nat) == 102) = false := beq_eq_false_iff_ne.2 (by omega)
        have c110 : (rd l (i' : Nat) == 110) = false := beq_eq_false_iff_ne.2 (by omega)
        have cd0 : decide (48 ≤ rd l (i' : Nat)) = true := decide_eq_true (by omega)
        have cd1 : decide (rd l (i' : Nat) ≤ 57) = false := decide_eq_false (by omega)
        go_wp2_with fail
        have hcn := pretty_isNaNOrInf.calls (some (adj.add i')) (c - i') (l.drop i') false wr (C_tail (Kd.C_below HJ.out HB.out) adj rfl i' (by omega)) (by rw [List.length_drop]; omega) (nan_no l i' hlt (by omega))
        rw [List.length_drop] at hcn
        refine hcn.mono ?_
        rintro e w' ⟨rfl, nd, rfl⟩
        clear hcn
        have n0_ := Aside0.mk (Kd.R_drewN HO.out nd)
        have n1_ := Aside0.mk (pw_below_drewN HB.out nd)
        have n2_ := (show (wr.drewN nd).cell? (adj.add i') = some (.int .u8 (rd l (i' : Nat))) from hxj)
        clear HO HB hxj
        have HO := n0_
        have HB := n1_
        have hxj := n2_
        clear n0_ n1_ n2_
        generalize wr.drewN nd = wn at HO HB hxj ⊢
        go_wp2_with fail
        refine ((ih k1 (by omega)).2 u0 o _ c l i' tabs nl r j nl2 ok w0 wn HB.out HO.out HJ.out hc hm (by omega) HN.out).mono ?_
        rintro e w' ⟨v3, rfl, ho, hb⟩
        clear HO HB hxj
        have HO := Aside0.mk ho
        have HB := Aside0.mk hb
        clear ho hb
        go_wp2
        refine bodyPost_ret (v := .tuple #[v3, .int .i64 (j : Nat), .int .i64 nl2, .bool ok]) ?_ rfl ⟨_, rfl, HO.out, HB.out⟩
        simp [results, Tryz.results122, go_sem]
      rw [if_neg h123] at H
      by_cases h91 : rd l (i' : Nat) = 91
      · rw [if_pos h91] at H
        have HN := Aside0.mk H
        clear H
        have c34 : (rd l (i' : Nat) == 34) = false := beq_eq_false_iff_ne.2 (by omega)
        have c45 : (rd l (i' : Nat) == 45) = false := beq_eq_false_iff_ne.2 (by omega)
        have c123 : (rd l (i' : Nat) == 123) = false := beq_eq_false_iff_ne.2 (by omega)
        have c91 : (rd l (i' : Nat) == 91) = true := beq_iff_eq.2 h91
        have c116 : (rd l (i' : Nat) == 116) = false := beq_eq_false_iff_ne.2 (by omega)
        have c102 : (rd l (i' : Nat) == 102) = false := beq_eq_false_iff_ne.2 (by omega)
        have c110 : (rd l (i' : Nat) == 110) = false := beq_eq_false_iff_ne.2 (by omega)
        have cd0 : decide (48 ≤ rd l (i' : Nat)) = true := decide_eq_true (by omega)
        have cd1 : decide (rd l (i' : Nat) ≤ 57) = false := decide_eq_false (by omega)
        go_wp2_with fail
        have hcn := pretty_isNaNOrInf.calls (some (adj.add i')) (c - i') (l.drop i') false wr (C_tail (Kd.C_below HJ.out HB.out) adj rfl i' (by omega)) (by rw [List.length_drop]; omega) (nan_no l i' hlt (by omega))
        rw [List.length_drop] at hcn
        refine hcn.mono ?_
        rintro e w' ⟨rfl, nd, rfl⟩
        clear hcn
        have n0_ := Aside0.mk (Kd.R_drewN HO.out nd)
        have n1_ := Aside0.mk (pw_below_drewN HB.out nd)
        have n2_ := (show (wr.drewN nd).cell? (adj.add i') = some (.int .u8 (rd l (i' : Nat))) from hxj)
        clear HO HB hxj
        have HO := n0_
        have HB := n1_
        have hxj := n2_
        clear n0_ n1_ n2_
        generalize wr.drewN nd = wn at HO HB hxj ⊢
        go_wp2_with fail
        refine ((ih k1 (by omega)).1 u0 o _ c l i' tabs nl r j nl2 ok w0 wn HB.out HO.out HJ.out hc hm (by omega) HN.out).mono ?_
        rintro e w' ⟨v3, rfl, ho, hb⟩
        clear HO HB hxj
        have HO := Aside0.mk ho
        have HB := Aside0.mk hb
        clear ho hb
        go_wp2
        refine bodyPost_ret (v := .tuple #[v3, .int .i64 (j : Nat), .int .i64 nl2, .bool ok]) ?_ rfl ⟨_, rfl, HO.out, HB.out⟩
        simp [results, Tryz.results122, go_sem]
      rw [if_neg h91] at H
      replace H := Option.bind_eq_some_iff.mp H
      obtain ⟨⟨r2, j2⟩, hF, H⟩ := H
      simp only [Option.some.injEq, Prod.mk.injEq] at H
      obtain ⟨e1, e2, e3, e4⟩ := H
      subst e1
      subst e2
      subst e3
      subst e4
      unfold prLeaf at hF
      by_cases h34 : rd l (i' : Nat) = 34
      · rw [if_pos h34] at hF
        simp only [Option.some.injEq, Prod.mk.injEq] at hF
        obtain ⟨e1, e2⟩ := hF
        subst e1
        subst e2
        have c34 : (rd l (i' : Nat) == 34) = true := beq_iff_eq.2 h34
        have c45 : (rd l (i' : Nat) == 45) = false := beq_eq_false_iff_ne.2 (by omega)
        have c123 : (rd l (i' : Nat) == 123) = false := beq_eq_false_iff_ne.2 (by omega)
        have c91 : (rd l (i' : Nat) == 91) = false := beq_eq_false_iff_ne.2 (by omega)
        have c116 : (rd l (i' : Nat) == 116) = false := beq_eq_false_iff_ne.2 (by omega)
        have c102 : (rd l (i' : Nat) == 102) = false := beq_eq_false_iff_ne.2 (by omega)
        have c110 : (rd l (i' : Nat) == 110) = false := beq_eq_false_iff_ne.2 (by omega)
        have cd0 : decide (48 ≤ rd l (i' : Nat)) = false := decide_eq_false (by omega)
        have cd1 : decide (rd l (i' : Nat) ≤ 57) = true := decide_eq_true (by omega)
        go_wp2_with fail
        refine (pretty_appendPrettyString.calls u0 o _ c l i' nl w0 wr HB.out HO.out HJ.out hc hlt hm (by omega)).mono ?_
        rintro e w' ⟨v3, rfl, ho, hb⟩
        clear HO HB hxj
        have HO := Aside0.mk ho
        have HB := Aside0.mk hb
        clear ho hb
        go_wp2
        refine bodyPost_ret (v := .tuple #[v3, .int .i64 ((strEnd l i' (l.length - (i' + 1)) : Nat) : Int), .int .i64 nl, .bool true]) ?_ rfl ⟨_, rfl, HO.out, HB.out⟩
        simp [results, Tryz.results122, go_sem]
      rw [if_neg h34] at hF
      by_cases hnum : numHead (rd l (i' : Nat))
      · rw [if_pos hnum] at hF
        simp only [Option.some.injEq, Prod.mk.injEq] at hF
        obtain ⟨e1, e2⟩ := hF
        subst e1
        subst e2
        have c34 : (rd l (i' : Nat) == 34) = false := beq_eq_false_iff_ne.2 h34
        by_cases h45 : rd l (i' : Nat) = 45
        · have c34 : (rd l (i' : Nat) == 34) = false := beq_eq_false_iff_ne.2 (by omega)
          have c45 : (rd l (i' : Nat) == 45) = true := beq_iff_eq.2 h45
          have c123 : (rd l (i' : Nat) == 123) = false := beq_eq_false_iff_ne.2 (by omega)
          have c91 : (rd l (i' : Nat) == 91) = false := beq_eq_false_iff_ne.2 (by omega)
          have c116 : (rd l (i' : Nat) == 116) = false := beq_eq_false_iff_ne.2 (by omega)
          have c102 : (rd l (i' : Nat) == 102) = false := beq_eq_false_iff_ne.2 (by omega)
          have c110 : (rd l (i' : Nat) == 110) = false := beq_eq_false_iff_ne.2 (by omega)
          have cd0 : decide (48 ≤ rd l (i' : Nat)) = false := decide_eq_false (by omega)
          go_wp2_with fail
          refine (pretty_appendPrettyNumber.calls u0 o _ c l i' nl w0 wr HB.out HO.out HJ.out hc hlt hm (by omega)).mono ?_
          rintro e w' ⟨v3, rfl, ho, hb⟩
          clear HO HB hxj
          have HO := Aside0.mk ho
          have HB := Aside0.mk hb
          clear ho hb
          go_wp2
          refine bodyPost_ret (v := .tuple #[v3, .int .i64 ((numEnd l (l.length - (i' + 1)) : Nat) : Int), .int .i64 nl, .bool true]) ?_ rfl ⟨_, rfl, HO.out, HB.out⟩
          simp [results, Tryz.results122, go_sem]
        · have cd0 : decide (48 ≤ rd l (i' : Nat)) = true := decide_eq_true (by unfold numHead at hnum; omega)
          have cd1 : decide (rd l (i' : Nat) ≤ 57) = true := decide_eq_true (by unfold numHead at hnum; omega)
          go_wp2_with fail
          refine (pretty_appendPrettyNumber.calls u0 o _ c l i' nl w0 wr HB.out HO.out HJ.out hc hlt hm (by omega)).mono ?_
          rintro e w' ⟨v3, rfl, ho, hb⟩
          clear HO HB hxj
          have HO := Aside0.mk ho
          have HB := Aside0.mk hb
          clear ho hb
          go_wp2
          refine bodyPost_ret (v := .tuple #[v3, .int .i64 ((numEnd l (l.length - (i' + 1)) : Nat) : Int), .int .i64 nl, .bool true]) ?_ rfl ⟨_, rfl, HO.out, HB.out⟩
          simp [results, Tryz.results122, go_sem]
      rw [if_neg hnum] at hF
      by_cases h116 : rd l (i' : Nat) = 116
      · rw [if_pos h116] at hF
        simp only [Option.some.injEq, Prod.mk.injEq] at hF
        obtain ⟨e1, e2⟩ := hF
        subst e1
        subst e2
        have c34 : (rd l (i' : Nat) == 34) = false := beq_eq_false_iff_ne.2 (by omega)
        have c45 : (rd l (i' : Nat) == 45) = false := beq_eq_false_iff_ne.2 (by omega)
        have c123 : (rd l (i' : Nat) == 123) = false := beq_eq_false_iff_ne.2 (by omega)
        have c91 : (rd l (i' : Nat) == 91) = false := beq_eq_false_iff_ne.2 (by omega)
        have c116 : (rd l (i' : Nat) == 116) = true := beq_iff_eq.2 h116
        have c102 : (rd l (i' : Nat) == 102) = false := beq_eq_false_iff_ne.2 (by omega)
        have c110 : (rd l (i' : Nat) == 110) = false := beq_eq_false_iff_ne.2 (by omega)
        have cd0 : decide (48 ≤ rd l (i' : Nat)) = true := decide_eq_true (by omega)
        have cd1 : decide (rd l (i' : Nat) ≤ 57) = false := decide_eq_false (by omega)
        go_wp2_with fail
        have hcn := pretty_isNaNOrInf.calls (some (adj.add i')) (c - i') (l.drop i') false wr (C_tail (Kd.C_below HJ.out HB.out) adj rfl i' (by omega)) (by rw [List.length_drop]; omega) (nan_no l i' hlt (by omega))
        rw [List.length_drop] at hcn
        refine hcn.mono ?_
        rintro e w' ⟨rfl, nd, rfl⟩
        clear hcn
        have n0_ := Aside0.mk (Kd.R_drewN HO.out nd)
        have n1_ := Aside0.mk (pw_below_drewN HB.out nd)
        have n2_ := (show (wr.drewN nd).cell? (adj.add i') = some (.int .u8 (rd l (i' : Nat))) from hxj)
        clear HO HB hxj
        have HO := n0_
        have HB := n1_
        have hxj := n2_
        clear n0_ n1_ n2_
        generalize wr.drewN nd = wn at HO HB hxj ⊢
        go_wp2_with (first | ((with_reducible refine gate_builtin (b := .append) (xs := #[.tmp 133, .tmp 134]) rfl ?_); at_builtin; refine Kd.R_append_rows (Kd.int .u8) (w0 := w0) w0.heap.size rfl (.tmp 133) (.tmp 134) 74 5 (.int .u8 0) 1 rfl Tryz.underlying74 info5 rfl (by decide) (by omega) _ o [116, 114, 117, 101] (some ⟨_, 0, none⟩) 4 4 (fun _ => True) (fun _ => False) rfl rfl ?aO ?aR (fun _ _ h => h) (fun _ h => h.elim) ?aF ?aB ?aS ?aL ?_; (case aR => exact (lit_reads _ [116, 114, 117, 101] (by decide))); (case aB => exact (below_alloc HB.out _)); (case aF => exact (fun _ _ => trivial)); (case aO => exact (Kd.R_alloc HO.out _)); (case aS => exact (below_alloc HB.out _).size); (case aL => exact tc15); intro v1 w1 ho hb hg hat; have n0_ := Aside0.mk ho; have n1_ := Aside0.mk hb; clear HO HB ho hb hg hat; have HO := n0_; have HB := n1_; clear n0_ n1_))
        refine bodyPost_ret (v := .tuple #[v1, .int .i64 ((i' + 4 : Nat) : Int), .int .i64 nl, .bool true]) ?_ rfl ⟨_, rfl, HO.out, HB.out⟩
        simp [results, Tryz.results122, go_sem]
      rw [if_neg h116] at hF
      by_cases h102 : rd l (i' : Nat) = 102
      · rw [if_pos h102] at hF
        simp only [Option.some.injEq, Prod.mk.injEq] at hF
        obtain ⟨e1, e2⟩ := hF
        subst e1
        subst e2
        have c34 : (rd l (i' : Nat) == 34) = false := beq_eq_false_iff_ne.2 (by omega)
        have c45 : (rd l (i' : Nat) == 45) = false := beq_eq_false_iff_ne.2 (by omega)
        have c123 : (rd l (i' : Nat) == 123) = false := beq_eq_false_iff_ne.2 (by omega)
        have c91 : (rd l (i' : Nat) == 91) = false := beq_eq_false_iff_ne.2 (by omega)
        have c116 : (rd l (i' : Nat) == 116) = false := beq_eq_false_iff_ne.2 (by omega)
        have c102 : (rd l (i' : Nat) == 102) = true := beq_iff_eq.2 h102
        have c110 : (rd l (i' : Nat) == 110) = false := beq_eq_false_iff_ne.2 (by omega)
        have cd0 : decide (48 ≤ rd l (i' : Nat)) = true := decide_eq_true (by omega)
        have cd1 : decide (rd l (i' : Nat) ≤ 57) = false := decide_eq_false (by omega)
        go_wp2_with fail
        have hcn := pretty_isNaNOrInf.calls (some (adj.add i')) (c - i') (l.drop i') false wr (C_tail (Kd.C_below HJ.out HB.out) adj rfl i' (by omega)) (by rw [List.length_drop]; omega) (nan_no l i' hlt (by omega))
        rw [List.length_drop] at hcn
        refine hcn.mono ?_
        rintro e w' ⟨rfl, nd, rfl⟩
        clear hcn
        have n0_ := Aside0.mk (Kd.R_drewN HO.out nd)
        have n1_ := Aside0.mk (pw_below_drewN HB.out nd)
        have n2_ := (show (wr.drewN nd).cell? (adj.add i') = some (.int .u8 (rd l (i' : Nat))) from hxj)
        clear HO HB hxj
        have HO := n0_
        have HB := n1_
        have hxj := n2_
        clear n0_ n1_ n2_
        generalize wr.drewN nd = wn at HO HB hxj ⊢
        go_wp2_with (first | ((with_reducible refine gate_builtin (b := .append) (xs := #[.tmp 141, .tmp 142]) rfl ?_); at_builtin; refine Kd.R_append_rows (Kd.int .u8) (w0 := w0) w0.heap.size rfl (.tmp 141) (.tmp 142) 74 5 (.int .u8 0) 1 rfl Tryz.underlying74 info5 rfl (by decide) (by omega) _ o [102, 97, 108, 115, 101] (some ⟨_, 0, none⟩) 5 5 (fun _ => True) (fun _ => False) rfl rfl ?aO ?aR (fun _ _ h => h) (fun _ h => h.elim) ?aF ?aB ?aS ?aL ?_; (case aR => exact (lit_reads _ [102, 97, 108, 115, 101] (by decide))); (case aB => exact (below_alloc HB.out _)); (case aF => exact (fun _ _ => trivial)); (case aO => exact (Kd.R_alloc HO.out _)); (case aS => exact (below_alloc HB.out _).size); (case aL => exact tc15); intro v1 w1 ho hb hg hat; have n0_ := Aside0.mk ho; have n1_ := Aside0.mk hb; clear HO HB ho hb hg hat; have HO := n0_; have HB := n1_; clear n0_ n1_))
        refine bodyPost_ret (v := .tuple #[v1, .int .i64 ((i' + 5 : Nat) : Int), .int .i64 nl, .bool true]) ?_ rfl ⟨_, rfl, HO.out, HB.out⟩
        simp [results, Tryz.results122, go_sem]
      rw [if_neg h102] at hF
      by_cases h110 : rd l (i' : Nat) = 110
      case neg => rw [if_neg h110] at hF; cases hF
      rw [if_pos h110] at hF
      by_cases hl1 : i' + 1 < l.length
      case neg => rw [if_neg hl1] at hF; cases hF
      rw [if_pos hl1] at hF
      by_cases h117 : rd l ((i' + 1 : Nat) : Int) = 117
      case neg => rw [if_neg h117] at hF; cases hF
      rw [if_pos h117] at hF
      simp only [Option.some.injEq, Prod.mk.injEq] at hF
      obtain ⟨e1, e2⟩ := hF
      subst e1
      subst e2
      have c34 : (rd l (i' : Nat) == 34) = false := beq_eq_false_iff_ne.2 (by omega)
      have c45 : (rd l (i' : Nat) == 45) = false := beq_eq_false_iff_ne.2 (by omega)
      have c123 : (rd l (i' : Nat) == 123) = false := beq_eq_false_iff_ne.2 (by omega)
      have c91 : (rd l (i' : Nat) == 91) = false := beq_eq_false_iff_ne.2 (by omega)
      have c116 : (rd l (i' : Nat) == 116) = false := beq_eq_false_iff_ne.2 (by omega)
      have c102 : (rd l (i' : Nat) == 102) = false := beq_eq_false_iff_ne.2 (by omega)
      have c110 : (rd l (i' : Nat) == 110) = true := beq_iff_eq.2 h110
      have cd0 : decide (48 ≤ rd l (i' : Nat)) = true := decide_eq_true (by omega)
      have cd1 : decide (rd l (i' : Nat) ≤ 57) = false := decide_eq_false (by omega)
      go_wp2_with fail
      have hcn := pretty_isNaNOrInf.calls (some (adj.add i')) (c - i') (l.drop i') false wr (C_tail (Kd.C_below HJ.out HB.out) adj rfl i' (by omega)) (by rw [List.length_drop]; omega) (nan_no l i' hlt (by omega))
      rw [List.length_drop] at hcn
      refine hcn.mono ?_
      rintro e w' ⟨rfl, nd, rfl⟩
      clear hcn
      have n0_ := Aside0.mk (Kd.R_drewN HO.out nd)
      have n1_ := Aside0.mk (pw_below_drewN HB.out nd)
      have n2_ := (show (wr.drewN nd).cell? (adj.add i') = some (.int .u8 (rd l (i' : Nat))) from hxj)
      clear HO HB hxj
      have HO := n0_
      have HB := n1_
      have hxj := n2_
      clear n0_ n1_ n2_
      generalize wr.drewN nd = wn at HO HB hxj ⊢
      go_wp2_with (first | ((with_reducible refine gate_builtin (b := .append) (xs := #[.tmp 149, .tmp 150]) rfl ?_); at_builtin; refine Kd.R_append_rows (Kd.int .u8) (w0 := w0) w0.heap.size rfl (.tmp 149) (.tmp 150) 74 5 (.int .u8 0) 1 rfl Tryz.underlying74 info5 rfl (by decide) (by omega) _ o [110, 117, 108, 108] (some ⟨_, 0, none⟩) 4 4 (fun _ => True) (fun _ => False) rfl rfl ?aO ?aR (fun _ _ h => h) (fun _ h => h.elim) ?aF ?aB ?aS ?aL ?_; (case aR => exact (lit_reads _ [110, 117, 108, 108] (by decide))); (case aB => exact (below_alloc HB.out _)); (case aF => exact (fun _ _ => trivial)); (case aO => exact (Kd.R_alloc HO.out _)); (case aS => exact (below_alloc HB.out _).size); (case aL => exact tc15); intro v1 w1 ho hb hg hat; have n0_ := Aside0.mk ho; have n1_ := Aside0.mk hb; clear HO HB ho hb hg hat; have HO := n0_; have HB := n1_; clear n0_ n1_))
      refine bodyPost_ret (v := .tuple #[v1, .int .i64 ((i' + 4 : Nat) : Int), .int .i64 nl, .bool true]) ?_ rfl ⟨_, rfl, HO.out, HB.out⟩
      simp [results, Tryz.results122, go_sem]
end Go.Proofs.YtookccnmgoocpaaGreatDoor.PTwo
