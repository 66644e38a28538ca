/- pretty's try of an array in one line: what it answers, and its walk. -/
import Derived.Test.YtookccnmgoocpaaGreatDoorUgPrA
import Derived.Test.YtookccnmgoocpaaGreatDoorUgWords
namespace Go.Proofs.YtookccnmgoocpaaGreatDoor.PTwo
open Go.RowKit Go.Proofs.YtookccnmgoocpaaGreatDoorW.PrintWords Go.Proofs.YtookccnmgoocpaaGreatDoorW.PrintLast Go.Proofs.YtookccnmgoocpaaGreatDoorW.PrintMore
attribute [local go_sem] max2_int min2_int max_two min_two max_three min_three max_four min_four   -- for this text's walks alone
set_option linter.unusedVariables false
set_option linter.unusedSimpArgs false
/-- A digit, or a minus. -/
def numHead (c : Int) : Prop := (48 ≤ c ∧ c ≤ 57) ∨ c = 45
instance (c : Int) : Decidable (numHead c) := by unfold numHead; exact inferInstance
/-- A string, a number, a word at a place: what is appended, and the place behind. -/
def prLeaf (l o : List Int) (i : Nat) : Option (List Int × Nat) :=
  if rd l (i : Nat) = 34 then some (o ++ (l.drop i).take (strEnd l i (l.length - (i + 1)) - i), strEnd l i (l.length - (i + 1)))
  else if numHead (rd l (i : Nat)) then some (o ++ (l.drop i).take (numEnd l (l.length - (i + 1)) - i), numEnd l (l.length - (i + 1)))
  else if rd l (i : Nat) = 116 then some (o ++ [116, 114, 117, 101], i + 4)
  else if rd l (i : Nat) = 102 then some (o ++ [102, 97, 108, 115, 101], i + 5)
  else if rd l (i : Nat) = 110 then (if i + 1 < l.length then (if rd l ((i + 1 : Nat) : Int) = 117 then some (o ++ [110, 117, 108, 108], i + 4) else none) else none)
  else none
mutual
def flatAny : Nat → List Int → List Int → Nat → Option (List Int × Nat × Bool)
  | 0, _, _, _ => none
  | k + 1, l, o, i => if o.length ≤ 1099511627776 then (if i < l.length then
      (if rd l (i : Nat) ≤ 32 ∨ rd l (i : Nat) = 44 then flatAny k l o (i + 1)
      else if rd l (i : Nat) = 123 then some (o, i, false)
      else if rd l (i : Nat) = 91 then flatArr k l o i
      else (prLeaf l o i).bind fun r => some (r.1, r.2, true)) else none) else none
def flatArr : Nat → List Int → List Int → Nat → Option (List Int × Nat × Bool)
  | 0, _, _, _ => none
  | k + 1, l, o, i => if o.length ≤ 1099511627776 then flatLoop k l (o ++ [91]) (i + 1) 0 else none
def flatLoop : Nat → List Int → List Int → Nat → Nat → Option (List Int × Nat × Bool)
  | 0, _, _, _, _ => none
  | k + 1, l, o, i, n => if o.length ≤ 1099511627777 then (if i < l.length then
      (if rd l (i : Nat) ≤ 32 then flatLoop k l o (i + 1) n
      else if rd l (i : Nat) = 93 then some (o ++ [93], i + 1, true)
      else (flatAny k l (if 0 < n then o ++ [44, 32] else o) i).bind fun r => if r.2.2 = true then (if 1 ≤ r.2.1 ∧ r.2.1 ≤ 4294967295 ∧ n ≤ 4294967295 then flatLoop k l r.1 r.2.1 (n + 1) else none) else some r) else none) else none
end
set_option maxHeartbeats 4000000 in
set_option maxRecDepth 100000 in
theorem flat_object.calls (u0 : Value) (A : Option Addr) (c n i : Nat) (tabs nl mx : Int) (hmx : mx ≠ -1) (w : World) :
    Calls Tryz.prog 168 #[u0, .slice A n c, .int .i64 (i : Nat), .int .u8 123, .int .u8 125, .bool false, .int .i64 80, .string ⟨#[]⟩, .string ⟨#[]⟩, .bool false, .int .i64 tabs, .int .i64 nl, .int .i64 mx] w fun e w' => e = .returned (.tuple #[u0, .int .i64 (i : Nat), .int .i64 nl, .bool false]) ∧ w' = w := by
  have b1 : (mx == -1) = false := beq_eq_false_iff_ne.2 hmx
  have b2 : (mx != -1) = true := bne_iff_ne.2 hmx
  go_enter Tryz.func168, Tryz.ntmps168
  go_wp2_with fail
  refine bodyPost_ret (v := .tuple #[u0, .int .i64 (i : Nat), .int .i64 nl, .bool false]) ?_ rfl ⟨rfl, rfl⟩
  simp [results, Tryz.results168, go_sem]
/-- What the walks say, for so many rounds. -/
def FlatAnyC (k : Nat) : Prop := ∀ (u0 : Value) (o : List Int) (A : Option Addr) (c : Nat) (l : List Int) (i : Nat) (tabs nl mx : Int) (hmx : mx ≠ -1) (r : List Int) (j : Nat) (ok : Bool) (w0 w : World) (hB : Below w0.heap.size w0 w) (ho0 : Kd.R (Kd.int .u8) 5 w w0.heap.size (fun _ => True) u0 o) (hJ : Kd.C (Kd.int .u8) w0 A l.length l) (hc : l.length ≤ c) (hm : l.length ≤ 2147483647) (hi : i ≤ 4294967295) (h : flatAny k l o i = some (r, j, ok)), Calls Tryz.prog 122 #[u0, .slice A l.length c, .int .i64 (i : Nat), .bool false, .int .i64 80, .string ⟨#[]⟩, .string ⟨#[]⟩, .bool false, .int .i64 tabs, .int .i64 nl, .int .i64 mx] w fun e w' => ∃ v : Value, e = .returned (.tuple #[v, .int .i64 (j : Nat), .int .i64 nl, .bool ok]) ∧ Kd.R (Kd.int .u8) 5 w' w0.heap.size (fun _ => True) v r ∧ Below w0.heap.size w0 w'
def FlatArrC (k : Nat) : Prop := ∀ (u0 : Value) (o : List Int) (A : Option Addr) (c : Nat) (l : List Int) (i : Nat) (tabs nl mx : Int) (hmx : mx ≠ -1) (r : List Int) (j : Nat) (ok : Bool) (w0 w : World) (hB : Below w0.heap.size w0 w) (ho0 : Kd.R (Kd.int .u8) 5 w w0.heap.size (fun _ => True) u0 o) (hJ : Kd.C (Kd.int .u8) w0 A l.length l) (hc : l.length ≤ c) (hm : l.length ≤ 2147483647) (hi : i ≤ 4294967295) (h : flatArr k l o i = some (r, j, ok)), Calls Tryz.prog 168 #[u0, .slice A l.length c, .int .i64 (i : Nat), .int .u8 91, .int .u8 93, .bool false, .int .i64 80, .string ⟨#[]⟩, .string ⟨#[]⟩, .bool false, .int .i64 tabs, .int .i64 nl, .int .i64 mx] w fun e w' => ∃ v : Value, e = .returned (.tuple #[v, .int .i64 (j : Nat), .int .i64 nl, .bool ok]) ∧ Kd.R (Kd.int .u8) 5 w' w0.heap.size (fun _ => True) v r ∧ Below w0.heap.size w0 w'
set_option maxHeartbeats 8000000 in
set_option maxRecDepth 100000 in
theorem flatArr_step (k : Nat) (ih : ∀ m, m < k → FlatAnyC m) : FlatArrC k := by
  intro u0 o A c l i tabs nl mx hmx r j ok w0 w hB ho0 hJ hc hm hi h
  cases k with
  | zero => simp [flatArr] at h
  | succ k =>
  rw [flatArr] at h
  by_cases hlo : o.length ≤ 1099511627776
  case neg => rw [if_neg hlo] at h; cases h
  rw [if_pos hlo] at h
  have b1 : (mx == -1) = false := beq_eq_false_iff_ne.2 hmx
  have b2 : (mx != -1) = true := bne_iff_ne.2 hmx
  have HO := Aside0.mk ho0
  have HB := Aside0.mk hB
  have HJ := Aside0.mk hJ
  have H0 := Aside0.mk h
  clear ho0 hB hJ h
  go_enter Tryz.func168, Tryz.ntmps168
  go_wp2_with (first | ((with_reducible refine gate_builtin (b := .append) (xs := #[.tmp 97, .tmp 99]) rfl ?_); at_builtin; refine Kd.R_append (Kd.int .u8) (w0 := w0) w0.heap.size rfl (.tmp 97) (.tmp 99) 74 5 (.int .u8 0) 1 rfl Tryz.underlying74 info5 rfl (by decide) (by omega) _ o 91 [.int .u8 91] (fun _ => True) (fun _ => False) rfl rfl ?aP (fun _ hk => hk.elim) ?aF ?aO ?aB ?aS ?aL ?_; (case aP => exact rfl); (case aB => exact HB.out); (case aF => exact (fun _ _ => trivial)); (case aO => exact HO.out); (case aS => exact HB.out.size); (case aL => exact tc15); intro v1 w1 ho hb hg hat; have n0_ := Aside0.mk ho; have n1_ := Aside0.mk hb; clear HO HB ho hb hg hat; have HO := n0_; have HB := n1_; clear n0_ n1_))
  go_loopg [0, 2, 9, 11, 30, 35] k (fun kq v0 v2 v9 v11 v30 v35 w' => ∃ (o' : List Int) (i' n : Nat), v2 = .int .i64 (i' : Nat) ∧ v9 = .bool false ∧ v11 = .int .i64 nl ∧ v35 = .int .i64 (n : Nat) ∧ Aside0 (flatLoop kq l o' i' n = some (r, j, ok)) ∧ Aside0 (kq ≤ k ∧ i' ≤ 4294967296 ∧ n ≤ 4294967296) ∧ Aside0 (Kd.R (Kd.int .u8) 5 w' w0.heap.size (fun _ => True) v0 o') ∧ Aside0 (Below w0.heap.size w0 w'))
  case atStart => exact ⟨_, i + 1, 0, by first | (simp; done) | (simp; unfold wrap64; omega), rfl, rfl, rfl, H0, ⟨by omega⟩, HO, HB⟩
  case round =>
    clear HO HB H0
    obtain ⟨o', i', n, rfl, rfl, rfl, rfl, HA, HK1, HO, HB⟩ := hrel
    cases gk with
    | zero => exact absurd HA.out (by simp [flatLoop])
    | succ k1 =>
      have hk1 := HK1.out.1
      have hk2 := HK1.out.2.1
      have hk3 := HK1.out.2.2
      have H := HA.out
      clear HA
      rw [flatLoop] at H
      by_cases hlo2 : o'.length ≤ 1099511627777
      case neg => rw [if_neg hlo2] at H; cases H
      rw [if_pos hlo2] at H
      by_cases hlt : i' < l.length
      case neg => rw [if_neg hlt] at H; cases H
      rw [if_pos hlt] at H
      have d1 : decide (i' < l.length) = true := decide_eq_true hlt
      obtain ⟨adj, ej, hxj⟩ := Kd.at_int HJ.out (i' : Nat) (Int.natCast_nonneg _) (by omega); cases ej; replace hxj := (HB.out.cell (World.block_lt_of_cell? w0 _ hxj)).trans hxj; simp only [Int.toNat_natCast] at hxj
      by_cases h32 : rd l (i' : Nat) ≤ 32
      · rw [if_pos h32] at H
        have c32 : decide (rd l (i' : Nat) ≤ 32) = true := decide_eq_true h32
        have HN := Aside0.mk H
        clear H
        go_wp2_with fail
        go_roundg k1
        case measure => omega
        case rel => exact ⟨o', i' + 1, n, by first | (simp; done) | (simp; unfold wrap64; omega), rfl, rfl, rfl, HN, ⟨by omega⟩, HO, HB⟩
      · rw [if_neg h32] at H
        have c32 : decide (rd l (i' : Nat) ≤ 32) = false := decide_eq_false h32
        by_cases h93 : rd l (i' : Nat) = 93
        · rw [if_pos h93] at H
          have c93 : (rd l (i' : Nat) == 93) = true := beq_iff_eq.2 h93
          cases H
          go_wp2_with (first | ((with_reducible refine gate_builtin (b := .append) (xs := #[.tmp 166, .tmp 168]) rfl ?_); at_builtin; refine Kd.R_append (Kd.int .u8) (w0 := w0) w0.heap.size rfl (.tmp 166) (.tmp 168) 74 5 (.int .u8 0) 1 rfl Tryz.underlying74 info5 rfl (by decide) (by omega) _ o' 93 [.int .u8 93] (fun _ => True) (fun _ => False) rfl rfl ?aP (fun _ hk => hk.elim) ?aF ?aO ?aB ?aS ?aL ?_; (case aP => exact rfl); (case aB => exact HB.out); (case aF => exact (fun _ _ => trivial)); (case aO => exact HO.out); (case aS => exact HB.out.size); (case aL => exact tc15); intro v1 w1 ho hb hg hat; have n0_ := Aside0.mk ho; have n1_ := Aside0.mk hb; clear HO HB ho hb hg hat; have HO := n0_; have HB := n1_; clear n0_ n1_))
          refine bodyPost_ret (v := .tuple #[v1, .int .i64 ((i' + 1 : Nat) : Int), .int .i64 nl, .bool true]) ?_ rfl ⟨_, rfl, HO.out, HB.out⟩
          simp [results, Tryz.results168, go_sem]
        · rw [if_neg h93] at H
          have c93 : (rd l (i' : Nat) == 93) = false := beq_eq_false_iff_ne.2 h93
          replace H := Option.bind_eq_some_iff.mp H
          obtain ⟨⟨r2, j2, ok2⟩, hF, H⟩ := H
          dsimp only at H
          by_cases hn : 0 < n
          · rw [if_pos hn] at hF
            have dn : decide (0 < n) = true := decide_eq_true hn
            have HF := Aside0.mk hF
            have HN := Aside0.mk H
            clear hF H
            have hlo3 : (o' ++ [44]).length ≤ 1099511627778 := by simp only [List.length_append, List.length_cons, List.length_nil]; omega
            go_wp2_with (first | ((with_reducible refine gate_builtin (b := .append) (xs := #[.tmp 187, .tmp 188]) rfl ?_); at_builtin; refine Kd.R_append (Kd.int .u8) (w0 := w0) w0.heap.size rfl (.tmp 187) (.tmp 188) 74 5 (.int .u8 0) 1 rfl Tryz.underlying74 info5 rfl (by decide) (by omega) _ o' 44 [.int .u8 44] (fun _ => True) (fun _ => False) rfl rfl ?aP (fun _ hk => hk.elim) ?aF ?aO ?aB ?aS ?aL ?_; (case aP => exact rfl); (case aB => exact HB.out); (case aF => exact (fun _ _ => trivial)); (case aO => exact HO.out); (case aS => exact HB.out.size); (case aL => exact tc15); intro v1 w1 ho hb hg hat; have n0_ := Aside0.mk ho; have n1_ := Aside0.mk hb; clear HO HB ho hb hg hat; have HO := n0_; have HB := n1_; clear n0_ n1_) | ((with_reducible refine gate_builtin (b := .append) (xs := #[.tmp 196, .tmp 197]) rfl ?_); at_builtin; refine Kd.R_append (Kd.int .u8) (w0 := w0) w0.heap.size rfl (.tmp 196) (.tmp 197) 74 5 (.int .u8 0) 1 rfl Tryz.underlying74 info5 rfl (by decide) (by omega) _ (o' ++ [44]) 32 [.int .u8 32] (fun _ => True) (fun _ => False) rfl rfl ?aP (fun _ hk => hk.elim) ?aF ?aO ?aB ?aS ?aL ?_; (case aP => exact rfl); (case aB => exact HB.out); (case aF => exact (fun _ _ => trivial)); (case aO => exact HO.out); (case aS => exact HB.out.size); (case aL => exact tc15); intro v1 w1 ho hb hg hat; have n0_ := Aside0.mk ho; have n1_ := Aside0.mk hb; clear HO HB ho hb hg hat; have HO := n0_; have HB := n1_; clear n0_ n1_))
            refine (ih k1 (by omega) _ _ _ c l i' (wrap64 (tabs + 1)) nl mx hmx r2 j2 ok2 w0 _ (below_alloc HB.out _) (Kd.R_alloc (by have h_ := HO.out; rw [List.append_assoc] at h_; exact h_) _) HJ.out hc hm (by omega) HF.out).mono ?_
            rintro e w' ⟨v3, rfl, ho, hb⟩
            have n0_ := Aside0.mk ho
            have n1_ := Aside0.mk hb
            clear HO HB ho hb hxj
            have HO := n0_
            have HB := n1_
            clear n0_ n1_
            cases ok2 with
            | true =>
              have H := HN.out
              clear HN
              rw [if_pos rfl] at H
              by_cases hj : 1 ≤ j2 ∧ j2 ≤ 4294967295 ∧ n ≤ 4294967295
              case neg => rw [if_neg hj] at H; cases H
              rw [if_pos hj] at H
              have HN := Aside0.mk H
              clear H
              obtain ⟨j1, j3, j4⟩ := hj
              go_wp2
              go_roundg k1
              case measure => omega
              case rel => exact ⟨r2, j2, n + 1, by first | (simp; done) | (simp; unfold wrap64; omega), rfl, rfl, by first | (simp; done) | (simp; unfold wrap64; omega), HN, ⟨by omega⟩, HO, HB⟩
            | false =>
              have H := HN.out
              clear HN
              rw [if_neg (by decide)] at H
              cases H
              go_wp2
              refine bodyPost_ret (v := .tuple #[v3, .int .i64 (j : Nat), .int .i64 nl, .bool false]) ?_ rfl ⟨_, rfl, HO.out, HB.out⟩
              simp [results, Tryz.results168, go_sem]
          · rw [if_neg hn] at hF
            have dn : decide (0 < n) = false := decide_eq_false hn
            have HF := Aside0.mk hF
            have HN := Aside0.mk H
            clear hF H
            go_wp2_with fail
            refine (ih k1 (by omega) _ _ _ c l i' (wrap64 (tabs + 1)) nl mx hmx r2 j2 ok2 w0 _ (below_alloc HB.out _) (Kd.R_alloc HO.out _) HJ.out hc hm (by omega) HF.out).mono ?_
            rintro e w' ⟨v3, rfl, ho, hb⟩
            have n0_ := Aside0.mk ho
            have n1_ := Aside0.mk hb
            clear HO HB ho hb hxj
            have HO := n0_
            have HB := n1_
            clear n0_ n1_
            cases ok2 with
            | true =>
              have H := HN.out
              clear HN
              rw [if_pos rfl] at H
              by_cases hj : 1 ≤ j2 ∧ j2 ≤ 4294967295 ∧ n ≤ 4294967295
              case neg => rw [if_neg hj] at H; cases H
              rw [if_pos hj] at H
              have HN := Aside0.mk H
              clear H
              obtain ⟨j1, j3, j4⟩ := hj
              go_wp2
              go_roundg k1
              case measure => omega
              case rel => exact ⟨r2, j2, n + 1, by first | (simp; done) | (simp; unfold wrap64; omega), rfl, rfl, by first | (simp; done) | (simp; unfold wrap64; omega), HN, ⟨by omega⟩, HO, HB⟩
            | false =>
              have H := HN.out
              clear HN
              rw [if_neg (by decide)] at H
              cases H
              go_wp2
              refine bodyPost_ret (v := .tuple #[v3, .int .i64 (j : Nat), .int .i64 nl, .bool false]) ?_ rfl ⟨_, rfl, HO.out, HB.out⟩
              simp [results, Tryz.results168, go_sem]
end Go.Proofs.YtookccnmgoocpaaGreatDoor.PTwo
