/- pretty's full printing of a value: the walk of an array. -/
import Derived.Test.YtookccnmgoocpaaGreatDoorUgPrD
import Derived.Test.YtookccnmgoocpaaGreatDoorUgWords
namespace Go.Proofs.YtookccnmgoocpaaGreatDoor.PTwo
open Go.RowKit Go.Proofs.YtookccnmgoocpaaGreatDoorW.PrintWords Go.Proofs.YtookccnmgoocpaaGreatDoorW.PrintLast Go.Proofs.YtookccnmgoocpaaGreatDoorW.PrintMore
attribute [local go_sem] max2_int min2_int max_two min_two max_three min_three max_four min_four   -- for this text's walks alone
set_option linter.unusedVariables false
set_option linter.unusedSimpArgs false
set_option maxHeartbeats 8000000 in
set_option maxRecDepth 100000 in
theorem fullArr_step (k : Nat) (ih : ∀ m, m < k → FullAnyC m) : FullArrC k := by
  intro u0 o A c l i tabs nl r j nl2 ok w0 w hB ho0 hJ hc hm hi h
  cases k with
  | zero => simp [fullArr] at h
  | succ k =>
  rw [fullArr] at h
  by_cases hlo : o.length ≤ 1099511627776 ∧ 0 ≤ nl ∧ nl ≤ 1099511627776
  case neg => rw [if_neg hlo] at h; cases h
  rw [if_pos hlo] at h
  obtain ⟨hl1, hl2, hl3⟩ := hlo
  have HO := Aside0.mk ho0
  have HB := Aside0.mk hB
  have HJ := Aside0.mk hJ
  have H0 := Aside0.mk h
  obtain ⟨Au, cu, rfl⟩ := Kd.R_slice ho0
  clear ho0 hB hJ h
  go_enter Tryz.func168, Tryz.ntmps168
  go_upto_if 38 with (fail)
  go_cut [0, 2, 30] (fun v0 v2 v30 wc => ∃ (o' : List Int), v2 = .int .i64 (i : Nat) ∧ Aside0 (fullLoop k l (o' ++ [91]) (i + 1) tabs nl 0 false = some (r, j, nl2, ok)) ∧ Aside0 (o'.length ≤ 1099511627776) ∧ Aside0 (Kd.R (Kd.int .u8) 5 wc w0.heap.size (fun _ => True) v0 o') ∧ Aside0 (Below w0.heap.size w0 wc))
  case first =>
    have H := H0.out
    clear H0
    by_cases h3 : 3 < (80 - ((o.length : Int) - nl))
    · rw [if_pos h3] at H
      have d3 : decide (3 < (80 - ((o.length : Int) - nl))) = true := decide_eq_true h3
      have p3 := eq_true h3
      replace H := Option.bind_eq_some_iff.mp H
      obtain ⟨⟨r2, j2, ok2⟩, hF, H⟩ := H
      dsimp only at H
      by_cases hlen : o.length ≤ r2.length ∧ r2.length ≤ 1099511627777
      case neg => rw [if_neg hlen] at H; cases H
      rw [if_pos hlen] at H
      obtain ⟨hlen1, hlen2⟩ := hlen
      have HF := Aside0.mk hF
      have HN := Aside0.mk H
      clear hF H
      go_wp2_with fail
      refine ((flat_all k).2 _ o A c l i 0 0 (80 - ((o.length : Int) - nl)) (by omega) r2 j2 ok2 w0 w HB.out HO.out HJ.out hc hm hi HF.out).mono ?_
      rintro e w' ⟨v3, rfl, ho, hb⟩
      obtain ⟨A3, c3, rfl⟩ := Kd.R_slice ho
      clear HO HB
      have HO := Aside0.mk ho
      have HB := Aside0.mk hb
      clear ho hb
      have w3_ : wrap64 ((r2.length : Int) - (o.length : Int)) = (r2.length : Int) - (o.length : Int) := by unfold wrap64; omega
      have hcap := (Kd.R_reads' HO.out).2.1
      have q1_ : (o.length ≤ c3) = True := eq_true (by omega)
      cases ok2 with
      | true =>
        by_cases hle : (r2.length : Int) - (o.length : Int) ≤ (80 - ((o.length : Int) - nl))
        · have dle : decide ((r2.length : Int) - (o.length : Int) ≤ (80 - ((o.length : Int) - nl))) = true := decide_eq_true hle
          have ple := eq_true hle
          have H := HN.out
          clear HN
          rw [if_pos ⟨rfl, hle⟩] at H
          simp only [Option.some.injEq, Prod.mk.injEq] at H
          obtain ⟨e1, e2, e3, e4⟩ := H
          subst e1
          subst e2
          subst e3
          subst e4
          go_wp2_with fail
          refine bodyPost_ret (v := .tuple #[.slice A3 r2.length c3, .int .i64 (j2 : Nat), .int .i64 nl, .bool true]) ?_ rfl ⟨_, rfl, HO.out, HB.out⟩
          simp [results, Tryz.results168, go_sem]
        · have dle : decide ((r2.length : Int) - (o.length : Int) ≤ (80 - ((o.length : Int) - nl))) = false := decide_eq_false hle
          have ple := eq_false hle
          have H := HN.out
          clear HN
          rw [if_neg (fun h => hle h.2)] at H
          have HN := Aside0.mk H
          clear H
          go_wp2_with fail
          go_meet
          case rel => exact ⟨r2.take o.length, rfl, HN, ⟨by rw [List.length_take]; omega⟩, ⟨Kd.R_take HO.out hlen1⟩, HB⟩
      | false =>
        have H := HN.out
        clear HN
        rw [if_neg (fun h => by cases h.1)] at H
        have HN := Aside0.mk H
        clear H
        go_wp2_with fail
        go_meet
        case rel => exact ⟨r2.take o.length, rfl, HN, ⟨by rw [List.length_take]; omega⟩, ⟨Kd.R_take HO.out hlen1⟩, HB⟩
    · rw [if_neg h3] at H
      have d3 : decide (3 < (80 - ((o.length : Int) - nl))) = false := decide_eq_false h3
      have p3 := eq_false h3
      have HN := Aside0.mk H
      clear H
      go_wp2_with fail
      go_meet
      case rel => exact ⟨o, rfl, HN, ⟨hl1⟩, HO, HB⟩
  case rest =>
    clear H0 HO HB
    obtain ⟨o', rfl, HA, hol0, HO, HB⟩ := hcut
    have hol := hol0.out
    clear hol0
    go_wp2_with (first | ((with_reducible refine gate_builtin (b := .append) (xs := #[.tmp 97, .tmp 99]) rfl ?_); at_builtin; refine Kd.R_append (Kd.int .u8) (w0 := w0) w0.heap.size rfl (.tmp 97) (.tmp 99) 74 5 (.int .u8 0) 1 rfl Tryz.underlying74 info5 rfl (by decide) (by omega) _ o' 91 [.int .u8 91] (fun _ => True) (fun _ => False) rfl rfl ?aP (fun _ hk => hk.elim) ?aF ?aO ?aB ?aS ?aL ?_; (case aP => exact rfl); (case aB => exact HB.out); (case aF => exact (fun _ _ => trivial)); (case aO => exact HO.out); (case aS => exact HB.out.size); (case aL => exact tc15); intro v1 w1 ho hb hg hat; have n0_ := Aside0.mk ho; have n1_ := Aside0.mk hb; clear HO HB ho hb hg hat; have HO := n0_; have HB := n1_; clear n0_ n1_))
    go_loopg [0, 2, 9, 11, 30, 35] k (fun kq v0 v2 v9 v11 v30 v35 w' => ∃ (o2 : List Int) (i' n : Nat) (nlc : Int), v2 = .int .i64 (i' : Nat) ∧ v9 = .bool false ∧ v11 = .int .i64 nlc ∧ v35 = .int .i64 (n : Nat) ∧ Aside0 (fullLoop kq l o2 i' tabs nlc n false = some (r, j, nl2, ok)) ∧ Aside0 (kq ≤ k ∧ i' ≤ 4294967296 ∧ n ≤ 4294967296) ∧ Aside0 (Kd.R (Kd.int .u8) 5 w' w0.heap.size (fun _ => True) v0 o2) ∧ Aside0 (Below w0.heap.size w0 w'))
    case atStart => exact ⟨_, i + 1, 0, nl, tc57, rfl, rfl, rfl, HA, ⟨by omega⟩, HO, HB⟩
    case round =>
      clear HO HB HA
      obtain ⟨o2, i', n, nlc, rfl, rfl, rfl, rfl, HA, HK1, HO, HB⟩ := hrel
      cases gk with
      | zero => exact absurd HA.out (by simp [fullLoop])
      | succ k1 =>
        have hk1 := HK1.out.1
        have hk2 := HK1.out.2.1
        have hk3 := HK1.out.2.2
        have H := HA.out
        clear HA
        rw [fullLoop] at H
        by_cases hlo2 : 1 ≤ o2.length ∧ o2.length ≤ 1099511627777 ∧ tabs ≤ 2147483647
        case neg => rw [if_neg hlo2] at H; cases H
        rw [if_pos hlo2] at H
        obtain ⟨hp1, hp2, hp3⟩ := hlo2
        by_cases hlt : i' < l.length
        case neg => rw [if_neg hlt] at H; cases H
        rw [if_pos hlt] at H
        have d1 : decide (i' < l.length) = true := decide_eq_true hlt
        obtain ⟨adj, ej, hxj⟩ := Kd.at_int HJ.out (i' : Nat) (Int.natCast_nonneg _) (by omega); cases ej; replace hxj := (HB.out.cell (World.block_lt_of_cell? w0 _ hxj)).trans hxj; simp only [Int.toNat_natCast] at hxj
        by_cases h32 : rd l (i' : Nat) ≤ 32
        · rw [if_pos h32] at H
          have c32 : decide (rd l (i' : Nat) ≤ 32) = true := decide_eq_true h32
          have HN := Aside0.mk H
          clear H
          go_wp2_with fail
          go_roundg k1
          case measure => omega
          case rel => exact ⟨o2, i' + 1, n, nlc, tc57, rfl, rfl, rfl, HN, ⟨by omega⟩, HO, HB⟩
        rw [if_neg h32] at H
        have c32 : decide (rd l (i' : Nat) ≤ 32) = false := decide_eq_false h32
        by_cases h93 : rd l (i' : Nat) = 93
        · rw [if_pos (by exact h93)] at H
          clear h32
          have c93 : (rd l (i' : Nat) == 93) = true := beq_iff_eq.2 h93
          have HN := Aside0.mk H
          clear H
          go_upto_if 137 with (fail)
          go_cut [0, 11] (fun v0 v11 wc => ∃ (o3 : List Int) (nl3 : Int), v11 = .int .i64 nl3 ∧ Aside0 (o3 = (if 0 < n then prNl o2 else o2) ∧ nl3 = (if 0 < n then (o2.length : Int) else nlc)) ∧ Aside0 (Kd.R (Kd.int .u8) 5 wc w0.heap.size (fun _ => True) v0 o3) ∧ Aside0 (Below w0.heap.size w0 wc))
          case first => as_aux_lemma =>
            clear HN
            by_cases hn : 0 < n
            · have dn : decide (0 < n) = true := decide_eq_true hn
              have Hn := Aside0.mk hn
              obtain ⟨g, cu, m, rfl, hm2, hx0, hf0, hg0⟩ := R_last HO.out (by omega)
              have hmb : m ≤ 1199511627776 := by omega
              have Hm := Aside0.mk hm2
              by_cases hb32 : rd o2 (m : Nat) = 32
              · have b32 : (rd o2 (m : Nat) == 32) = true := beq_iff_eq.2 hb32
                have Hb := Aside0.mk (prNl_yes hm2 hb32)
                clear hm2 hb32
                go_wp2_with fail
                go_meet
                case rel => exact ⟨_, _, rfl, ⟨by rw [if_pos Hn.out, if_pos Hn.out, Hb.out]; exact ⟨rfl, by rw [Hm.out]; omega⟩⟩, ⟨R_store HO.out 10⟩, ⟨below_set HB.out hg0⟩⟩
              · have b32 : (rd o2 (m : Nat) == 32) = false := beq_eq_false_iff_ne.2 hb32
                have Hb := Aside0.mk (prNl_no hm2 hb32)
                have hml : o2.length ≤ 1099511627780 := by omega
                clear hm2 hb32
                go_wp2_with (first | ((with_reducible refine gate_builtin (b := .append) (xs := #[.tmp 150, .tmp 151]) rfl ?_); at_builtin; refine Kd.R_append (Kd.int .u8) (w0 := w0) w0.heap.size rfl (.tmp 150) (.tmp 151) 74 5 (.int .u8 0) 1 rfl Tryz.underlying74 info5 rfl (by decide) (by omega) _ o2 10 [.int .u8 10] (fun _ => True) (fun _ => False) rfl rfl ?aP (fun _ hk => hk.elim) ?aF ?aO ?aB ?aS ?aL ?_; (case aP => exact rfl); (case aB => exact HB.out); (case aF => exact (fun _ _ => trivial)); (case aO => exact HO.out); (case aS => exact HB.out.size); (case aL => exact tc15); intro v1 w1 ho hb hg hat; have n0_ := Aside0.mk ho; have n1_ := Aside0.mk hb; clear HO HB ho hb hg hat; have HO := n0_; have HB := n1_; clear n0_ n1_))
                go_meet
                case rel => exact ⟨_, _, rfl, ⟨by rw [if_pos Hn.out, if_pos Hn.out, Hb.out]; exact ⟨rfl, by rw [Hm.out]; omega⟩⟩, HO, HB⟩
            · have dn : decide (0 < n) = false := decide_eq_false hn
              have Hn := Aside0.mk hn
              go_wp2_with fail
              go_meet
              case rel => exact ⟨o2, nlc, rfl, ⟨by rw [if_neg Hn.out, if_neg Hn.out]; exact ⟨rfl, rfl⟩⟩, HO, HB⟩
          case rest => as_aux_lemma =>
            have hp4 : 1 ≤ o2.length := hp1
            clear HO HB hxj
            obtain ⟨o3, nl3, rfl, HE, HO, HB⟩ := hcut
            have hl3 : o2.length ≤ o3.length ∧ o3.length ≤ o2.length + 1 := by
              rw [HE.out.1]
              have := prNl_len o2
              split <;> omega
            obtain ⟨hl31, hl32⟩ := hl3
            have hN := HN.out
            clear HN
            unfold prClose at hN
            rw [← HE.out.1, ← HE.out.2] at hN
            obtain ⟨g, cu, m, rfl, hm2, hx0, hf0, hg0⟩ := R_last HO.out (by omega)
            have hmb : m ≤ 1199511627776 := by omega
            have Hm := Aside0.mk hm2
            by_cases hop : rd o3 (m : Nat) = 91
            · rw [show o3.length - 1 = m from by omega, if_pos (by exact hop)] at hN
              have bop : (rd o3 (m : Nat) == 91) = true := beq_iff_eq.2 hop
              have bop2 : (rd o3 (m : Nat) != 91) = false := bne_eq_false_iff_eq.2 hop
              clear hop hm2
              simp only [Option.some.injEq, Prod.mk.injEq] at hN
              obtain ⟨e1, e2, e3, e4⟩ := hN
              subst e1
              subst e2
              subst e3
              subst e4
              clear HE
              go_wp2_with (first | ((with_reducible refine gate_builtin (b := .append) (xs := #[.tmp 166, .tmp 168]) rfl ?_); at_builtin; refine Kd.R_append (Kd.int .u8) (w0 := w0) w0.heap.size rfl (.tmp 166) (.tmp 168) 74 5 (.int .u8 0) 1 rfl Tryz.underlying74 info5 rfl (by decide) (by omega) _ o3 93 [.int .u8 93] (fun _ => True) (fun _ => False) rfl rfl ?aP (fun _ hk => hk.elim) ?aF ?aO ?aB ?aS ?aL ?_; (case aP => exact rfl); (case aB => exact HB.out); (case aF => exact (fun _ _ => trivial)); (case aO => exact HO.out); (case aS => exact HB.out.size); (case aL => exact tc15); intro v1 w1 ho hb hg hat; have n0_ := Aside0.mk ho; have n1_ := Aside0.mk hb; clear HO HB ho hb hg hat; have HO := n0_; have HB := n1_; clear n0_ n1_))
              refine bodyPost_ret (v := .tuple #[v1, .int .i64 ((i' + 1 : Nat) : Int), .int .i64 nl3, .bool true]) ?_ rfl ⟨_, rfl, by first | exact HO.out | simpa only [List.append_assoc] using HO.out, HB.out⟩
              simp [results, Tryz.results168, go_sem]
            · rw [show o3.length - 1 = m from by omega, if_neg (by exact hop)] at hN
              have bop : (rd o3 (m : Nat) == 91) = false := beq_eq_false_iff_ne.2 hop
              have bop2 : (rd o3 (m : Nat) != 91) = true := bne_iff_ne.2 hop
              have hlr : (o3 ++ List.replicate (2 * tabs) (32 : Int)).length ≤ 1099511627778 + 4294967294 := by rw [List.length_append, List.length_replicate]; omega
              clear hop hm2
              simp only [Option.some.injEq, Prod.mk.injEq] at hN
              obtain ⟨e1, e2, e3, e4⟩ := hN
              subst e1
              subst e2
              subst e3
              subst e4
              clear HE
              go_wp2_with fail
              refine (pretty_appendTabs.calls _ o3 tabs w0 _ HB.out HO.out (by omega) (by omega)).mono ?_
              rintro e w' ⟨v3, rfl, ho, hb⟩
              clear HO HB hx0 hf0
              have HO := Aside0.mk ho
              have HB := Aside0.mk hb
              clear ho hb
              go_wp2_with (first | ((with_reducible refine gate_builtin (b := .append) (xs := #[.tmp 166, .tmp 168]) rfl ?_); at_builtin; refine Kd.R_append (Kd.int .u8) (w0 := w0) w0.heap.size rfl (.tmp 166) (.tmp 168) 74 5 (.int .u8 0) 1 rfl Tryz.underlying74 info5 rfl (by decide) (by omega) _ (o3 ++ List.replicate (2 * tabs) 32) 93 [.int .u8 93] (fun _ => True) (fun _ => False) rfl rfl ?aP (fun _ hk => hk.elim) ?aF ?aO ?aB ?aS ?aL ?_; (case aP => exact rfl); (case aB => exact HB.out); (case aF => exact (fun _ _ => trivial)); (case aO => exact HO.out); (case aS => exact HB.out.size); (case aL => exact tc15); intro v1 w1 ho hb hg hat; have n0_ := Aside0.mk ho; have n1_ := Aside0.mk hb; clear HO HB ho hb hg hat; have HO := n0_; have HB := n1_; clear n0_ n1_))
              refine bodyPost_ret (v := .tuple #[v1, .int .i64 ((i' + 1 : Nat) : Int), .int .i64 nl3, .bool true]) ?_ rfl ⟨_, rfl, by first | exact HO.out | simpa only [List.append_assoc] using HO.out, HB.out⟩
              simp [results, Tryz.results168, go_sem]
        rw [if_neg (by exact h93)] at H
        have c93 : (rd l (i' : Nat) == 93) = false := beq_eq_false_iff_ne.2 h93
        rw [if_pos (Or.inl rfl), if_neg (by decide)] at H
        clear h32 h93
        replace H := Option.bind_eq_some_iff.mp H
        obtain ⟨⟨r2, j2, nl4, ok2⟩, hF, H⟩ := H
        dsimp only at H
        have HF := Aside0.mk hF
        have HN := Aside0.mk H
        clear hF H
        go_upto_if 186 with (fail)
        go_cut [0] (fun v0 wc => ∃ (o3 : List Int), Aside0 (o3 = prSep o2 n false) ∧ Aside0 (Kd.R (Kd.int .u8) 5 wc w0.heap.size (fun _ => True) v0 o3) ∧ Aside0 (Below w0.heap.size w0 wc))
        case first => as_aux_lemma =>
          clear HF HN
          by_cases hn : 0 < n
          · have dn : decide (0 < n) = true := decide_eq_true hn
            have Hn := Aside0.mk hn
            have hlo3 : (o2 ++ [44]).length ≤ 1099511627778 := by simp only [List.length_append, List.length_cons, List.length_nil]; omega
            go_wp2_with (first | ((with_reducible refine gate_builtin (b := .append) (xs := #[.tmp 187, .tmp 188]) rfl ?_); at_builtin; refine Kd.R_append (Kd.int .u8) (w0 := w0) w0.heap.size rfl (.tmp 187) (.tmp 188) 74 5 (.int .u8 0) 1 rfl Tryz.underlying74 info5 rfl (by decide) (by omega) _ o2 44 [.int .u8 44] (fun _ => True) (fun _ => False) rfl rfl ?aP (fun _ hk => hk.elim) ?aF ?aO ?aB ?aS ?aL ?_; (case aP => exact rfl); (case aB => exact HB.out); (case aF => exact (fun _ _ => trivial)); (case aO => exact HO.out); (case aS => exact HB.out.size); (case aL => exact tc15); intro v1 w1 ho hb hg hat; have n0_ := Aside0.mk ho; have n1_ := Aside0.mk hb; clear HO HB ho hb hg hat; have HO := n0_; have HB := n1_; clear n0_ n1_) | ((with_reducible refine gate_builtin (b := .append) (xs := #[.tmp 196, .tmp 197]) rfl ?_); at_builtin; refine Kd.R_append (Kd.int .u8) (w0 := w0) w0.heap.size rfl (.tmp 196) (.tmp 197) 74 5 (.int .u8 0) 1 rfl Tryz.underlying74 info5 rfl (by decide) (by omega) _ (o2 ++ [44]) 32 [.int .u8 32] (fun _ => True) (fun _ => False) rfl rfl ?aP (fun _ hk => hk.elim) ?aF ?aO ?aB ?aS ?aL ?_; (case aP => exact rfl); (case aB => exact HB.out); (case aF => exact (fun _ _ => trivial)); (case aO => exact HO.out); (case aS => exact HB.out.size); (case aL => exact tc15); intro v1 w1 ho hb hg hat; have n0_ := Aside0.mk ho; have n1_ := Aside0.mk hb; clear HO HB ho hb hg hat; have HO := n0_; have HB := n1_; clear n0_ n1_))
            go_meet
            case rel => exact ⟨_, ⟨by unfold prSep; rw [if_pos Hn.out]; simp⟩, HO, HB⟩
          · have dn : decide (0 < n) = false := decide_eq_false hn
            have Hn := Aside0.mk hn
            go_wp2_with fail
            go_meet
            case rel => exact ⟨o2, ⟨by unfold prSep; rw [if_neg Hn.out]⟩, HO, HB⟩
        case rest => as_aux_lemma =>
          clear HO HB hxj
          obtain ⟨o3, HE, HO, HB⟩ := hcut
          have hl3 : o2.length ≤ o3.length ∧ o3.length ≤ o2.length + 2 := by rw [HE.out]; exact prSep_len o2 n false
          obtain ⟨hl31, hl32⟩ := hl3
          go_upto_region 41 with (fail)
          go_cut [0] (fun v0 wc => Aside0 (Kd.R (Kd.int .u8) 5 wc w0.heap.size (fun _ => True) v0 o3) ∧ Aside0 (Below w0.heap.size w0 wc))
          case first => as_aux_lemma =>
            clear HF HN HE
            go_wp2_with fail
            go_meet
            case rel => exact ⟨⟨Kd.R_alloc HO.out _⟩, ⟨below_alloc HB.out _⟩⟩
          case rest =>
          clear HO HB
          obtain ⟨HO, HB⟩ := hcut
          go_upto_if 199 with (fail)
          go_cut [0, 11] (fun v0 v11 wc => ∃ (o4 : List Int) (nl5 : Int), v11 = .int .i64 nl5 ∧ Aside0 (o4 = prNl o3 ++ List.replicate (2 * (tabs + 1)) 32 ∧ nl5 = (o3.length : Int)) ∧ Aside0 (Kd.R (Kd.int .u8) 5 wc w0.heap.size (fun _ => True) v0 o4) ∧ Aside0 (Below w0.heap.size w0 wc))
          case first => as_aux_lemma =>
            clear HF HN HE
            obtain ⟨g, cu, m, rfl, hm2, hx0, hf0, hg0⟩ := R_last HO.out (by omega)
            have hmb : m ≤ 1199511627776 := by omega
            have Hm := Aside0.mk hm2
            have hml : o3.length ≤ 1099511627780 := by omega
            by_cases hb32 : rd o3 (m : Nat) = 32
            · have b32 : (rd o3 (m : Nat) == 32) = true := beq_iff_eq.2 hb32
              have Hb := Aside0.mk (prNl_yes hm2 hb32)
              clear hm2 hb32
              go_wp2_with fail
              have hct := pretty_appendTabs.calls _ (o3.set m 10) (tabs + 1) w0 _ (Aside0.out ⟨below_set HB.out hg0⟩) (Aside0.out ⟨R_store HO.out 10⟩) (by omega) (by first | omega | (simp only [List.length_append, List.length_set, List.length_cons, List.length_nil]; omega))
              rw [show (((tabs + 1 : Nat)) : Int) = (tabs : Int) + 1 from by omega] at hct
              refine hct.mono ?_
              clear hct
              rintro e w' ⟨v3, rfl, ho, hb⟩
              clear HO HB hx0 hf0
              have HO := Aside0.mk ho
              have HB := Aside0.mk hb
              clear ho hb
              go_wp2
              go_meet
              case rel => exact ⟨_, _, rfl, ⟨by rw [Hb.out]; exact ⟨rfl, by rw [Hm.out]; omega⟩⟩, HO, HB⟩
            · have b32 : (rd o3 (m : Nat) == 32) = false := beq_eq_false_iff_ne.2 hb32
              have Hb := Aside0.mk (prNl_no hm2 hb32)
              clear hm2 hb32
              go_wp2_with (first | ((with_reducible refine gate_builtin (b := .append) (xs := #[.tmp 212, .tmp 213]) rfl ?_); at_builtin; refine Kd.R_append (Kd.int .u8) (w0 := w0) w0.heap.size rfl (.tmp 212) (.tmp 213) 74 5 (.int .u8 0) 1 rfl Tryz.underlying74 info5 rfl (by decide) (by omega) _ o3 10 [.int .u8 10] (fun _ => True) (fun _ => False) rfl rfl ?aP (fun _ hk => hk.elim) ?aF ?aO ?aB ?aS ?aL ?_; (case aP => exact rfl); (case aB => exact HB.out); (case aF => exact (fun _ _ => trivial)); (case aO => exact HO.out); (case aS => exact HB.out.size); (case aL => exact tc15); intro v1 w1 ho hb hg hat; have n0_ := Aside0.mk ho; have n1_ := Aside0.mk hb; clear HO HB ho hb hg hat; have HO := n0_; have HB := n1_; clear n0_ n1_))
              have hct := pretty_appendTabs.calls _ (o3 ++ [10]) (tabs + 1) w0 _ (Aside0.out HB) (Aside0.out HO) (by omega) (by first | omega | (simp only [List.length_append, List.length_set, List.length_cons, List.length_nil]; omega))
              rw [show (((tabs + 1 : Nat)) : Int) = (tabs : Int) + 1 from by omega] at hct
              refine hct.mono ?_
              clear hct
              rintro e w' ⟨v3, rfl, ho, hb⟩
              clear HO HB hx0 hf0
              have HO := Aside0.mk ho
              have HB := Aside0.mk hb
              clear ho hb
              go_wp2
              go_meet
              case rel => exact ⟨_, _, rfl, ⟨by rw [Hb.out]; exact ⟨rfl, by rw [Hm.out]; omega⟩⟩, HO, HB⟩
          case rest =>
          clear HO HB
          obtain ⟨o4, nl5, rfl, HE4, HO, HB⟩ := hcut
          have hl4 : o4.length ≤ o3.length + 1 + 2 * (tabs + 1) := by
            rw [HE4.out.1, List.length_append, List.length_replicate]
            have := prNl_len o3
            omega
          have ht1 : (((tabs + 1 : Nat)) : Int) = (tabs : Int) + 1 := by omega
          have hF := HF.out
          clear HF
          rw [← HE.out, ← HE4.out.1, ← HE4.out.2] at hF
          have HF := Aside0.mk hF
          have Ht1 := Aside0.mk ht1
          clear hF ht1 HE HE4
          go_wp2_with fail
          have hcn := ih k1 (by omega) _ _ _ c l i' (tabs + 1) nl5 r2 j2 nl4 ok2 w0 _ HB.out HO.out HJ.out hc hm (by omega) HF.out
          rw [Ht1.out] at hcn
          refine hcn.mono ?_
          clear hcn
          rintro e w' ⟨v3, rfl, ho, hb⟩
          clear HO HB
          have HO := Aside0.mk ho
          have HB := Aside0.mk hb
          clear ho hb
          have H := HN.out
          clear HN
          by_cases hj : 1 ≤ j2 ∧ j2 ≤ 4294967295 ∧ n ≤ 4294967295
          case neg => rw [if_neg hj] at H; cases H
          rw [if_pos hj] at H
          have HN := Aside0.mk H
          clear H
          obtain ⟨j1, j3, j4⟩ := hj
          go_wp2
          go_roundg k1
          case measure => omega
          case rel => exact ⟨r2, j2, n + 1, nl4, tc57, rfl, rfl, tc57, HN, ⟨by omega⟩, HO, HB⟩
end Go.Proofs.YtookccnmgoocpaaGreatDoor.PTwo
