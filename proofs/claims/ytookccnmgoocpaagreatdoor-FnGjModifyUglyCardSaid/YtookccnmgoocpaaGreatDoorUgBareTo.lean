/- spec.bareTo: what it answers (its function out of the tree of places), and its walk. -/
import Derived.Test.YtookccnmgoocpaaGreatDoorUgPTwox15
import Derived.Test.YtookccnmgoocpaaGreatDoorUgWords
import Derived.StillTailTactics
namespace Go.Proofs.YtookccnmgoocpaaGreatDoor.PTwo
open Go.RowKit Go.Proofs.YtookccnmgoocpaaGreatDoorW.PrintWords Go.Proofs.YtookccnmgoocpaaGreatDoorW.PrintLast Go.Proofs.YtookccnmgoocpaaGreatDoorW.PrintMore
attribute [local go_sem] max2_int min2_int max_two min_two max_three min_three max_four min_four   -- for this text's walks alone
set_option linter.unusedVariables false
set_option linter.unusedSimpArgs false
/-- A part of the text appended. -/
def bareCut (o : List Int) (s : ByteArray) (a b : Int) : Option (List Int) :=
  if 0 ≤ a then if a ≤ b then if b ≤ (s.size : Int) then some (o ++ bytesOf (s.extract a.toNat b.toNat)) else none else none else none
/-- The elements or members from one on, and the closing bracket. -/
def bareL (F : List Int → ByteArray → S40 → Option (List Int)) : Nat → List Int → ByteArray → S40 → Int → Option (List Int)
  | 0, _, _, _, _ => none
  | n + 1, o, s, p, i => if o.length ≤ 1099511627776 then (if 0 ≤ i then (if i < (p.f4.length : Int) then
      (if p.f0 = 6 then (if i < (p.f3.length : Int) then (bareCut (if 0 < i then o ++ [44] else o) s (rd_T84 p.f3 i).f0 (rd_T84 p.f3 i).f1).bind fun o2 => (F (o2 ++ [58]) s (rd_T40 p.f4 i)).bind fun o3 => bareL F n o3 s p (i + 1) else none)
      else (F (if 0 < i then o ++ [44] else o) s (rd_T40 p.f4 i)).bind fun o3 => bareL F n o3 s p (i + 1))
      else some (o ++ [if p.f0 = 6 then 125 else 93])) else none) else none
def spec_bareTo.f : Nat → List Int → ByteArray → S40 → Option (List Int)
  | 0, _, _, _ => none
  | k + 1, o, s, p => if o.length ≤ 1099511627776 then (if s.size ≤ 1099511627776 then (if p.f4.length ≤ 1099511627776 then (if p.f0 = 5 ∨ p.f0 = 6 then bareL (spec_bareTo.f k) k (o ++ [if p.f0 = 6 then 123 else 91]) s p 0 else bareCut o s p.f1 p.f2) else none) else none) else none
/-- Whatever is no row of bytes stays as it is. -/
def KeepT (w w' : World) : Prop := w.heap.size ≤ w'.heap.size ∧ ∀ (k : Nat) (cs : Array Value) (q : Nat) (fr : Nat × Nat), w.heap[k]? = some (.cells cs q fr) → q ≠ 5 → w'.heap[k]? = some (.cells cs q fr)
theorem S40.eta (p : S40) : (⟨p.f0, p.f1, p.f2, p.f3, p.f4⟩ : S40) = p := by cases p; rfl
theorem KeepT.refl (w : World) : KeepT w w := ⟨Nat.le_refl _, fun _ _ _ _ h _ => h⟩
theorem KeepT.trans {w w1 w2 : World} (h : KeepT w w1) (h2 : KeepT w1 w2) : KeepT w w2 := ⟨Nat.le_trans h.1 h2.1, fun k cs q fr e hq => h2.2 k cs q fr (h.2 k cs q fr e hq) hq⟩
theorem KeepT.alloc {w w1 : World} (h : KeepT w w1) (o : Obj) : KeepT w (w1.alloc o) := ⟨Nat.le_trans h.1 (by simp), fun k cs q fr e hq => blk_alloc (h.2 k cs q fr e hq) o⟩
theorem KeepT.drew {w w1 : World} (h : KeepT w w1) : KeepT w w1.drew := h
theorem KeepT.of {w w1 : World} (h : Below w.heap.size w w1) : KeepT w w1 := ⟨h.size, fun k cs q fr e hq => (h.block k (blk_lt e)).trans e⟩
theorem KeepT.grown {w W w1 : World} {base : Nat} {ok : Nat → Prop} {v : Value} {xs : List Int} (h : KeepT w W) (ho : Kd.R (Kd.int .u8) 5 W base ok v xs) (hg : W.grownBy w1 v.ownBlock) : KeepT w w1 := by
  refine ⟨Nat.le_trans h.1 hg.size, fun k cs q fr e hq => ?_⟩
  have e1 := h.2 k cs q fr e hq
  refine (hg.block k (blk_lt e1) (fun hk => ?_)).trans e1
  obtain ⟨_, _, _, q2, h2, cells, h3⟩ := (Kd.R_bound ho).1 k hk.symm
  rw [e1] at h3
  injection h3 with h3
  injection h3 with _ h4 _
  rcases List.mem_cons.1 h2 with h2 | h2
  · exact hq (h4.trans h2)
  · exact absurd h2 List.not_mem_nil
set_option maxHeartbeats 8000000 in
set_option maxRecDepth 100000 in
theorem spec_bareTo.calls (k : Nat) : ∀ (u0 : Value) (o : List Int) (a0 : ByteArray) (p0 p1 p2 : Int) (A3 : Option Addr) (c3 : Nat) (l3 : List S84) (A4 : Option Addr) (c4 : Nat) (l4 : List S40) (r : List Int) (w0 w : World) (hB : Below w0.heap.size w0 w)
    (ho0 : Kd.R (Kd.int .u8) 5 w w0.heap.size (fun _ => True) u0 o) (h3 : Kd.C k84 w0 A3 l3.length l3) (hc3 : l3.length ≤ c3) (h4 : Kd.C k40 w0 A4 l4.length l4) (hc4 : l4.length ≤ c4) (h : spec_bareTo.f k o a0 ⟨p0, p1, p2, l3, l4⟩ = some r),
    Calls Tryz.prog 44 #[u0, .string a0, .agg #[.int .i64 p0, .int .i64 p1, .int .i64 p2, .slice A3 l3.length c3, .slice A4 l4.length c4]] w fun e w' => ∃ v : Value, e = .returned v ∧ Kd.R (Kd.int .u8) 5 w' w0.heap.size (fun _ => True) v r ∧ Below w0.heap.size w0 w' ∧ KeepT w w' := by
  induction k with
  | zero => intro u0 o a0 p0 p1 p2 A3 c3 l3 A4 c4 l4 r w0 w hB ho0 h3 hc3 h4 hc4 h; simp [spec_bareTo.f] at h
  | succ k ih =>
  intro u0 o a0 p0 p1 p2 A3 c3 l3 A4 c4 l4 r w0 w hB ho0 h3 hc3 h4 hc4 h
  simp only [spec_bareTo.f] at h
  have hu40 := Tryz.underlying40
  by_cases hlo : o.length ≤ 1099511627776
  case neg => rw [if_neg hlo] at h; cases h
  rw [if_pos hlo] at h
  by_cases hls : a0.size ≤ 1099511627776
  case neg => rw [if_neg hls] at h; cases h
  rw [if_pos hls] at h
  by_cases hlk : l4.length ≤ 1099511627776
  case neg => rw [if_neg hlk] at h; cases h
  rw [if_pos hlk] at h
  have HB0 := Aside0.mk hB
  have HO0 := Aside0.mk ho0
  have H3 := Aside0.mk h3
  have H4 := Aside0.mk h4
  clear h3 h4 ho0
  rcases (show p0 = 6 ∨ p0 = 5 ∨ (p0 ≠ 5 ∧ p0 ≠ 6) by omega) with hk | hk | ⟨hk5, hk6⟩
  · subst hk
    rw [if_pos (by decide)] at h
    rw [if_pos rfl] at h
    have H0 := Aside0.mk h
    clear h
    go_enter Tryz.func44, Tryz.ntmps44
    go_wp2_with (first | ((with_reducible refine gate_dst (N := 5) rfl ?_); refine box_event ?hg (N := 5) ?hd (cs := #[.int .i64 6, .int .i64 p1, .int .i64 p2, .slice A3 l3.length c3, .slice A4 l4.length c4]) (t := 40) ?hr ?_; (case hd => rfl); (case hg => rfl); (case hr => first | (go_simp; done) | (go_simp; rfl)); intro gb hg wb hbox hb; have HO := Aside0.mk (Kd.R_below HO0.out hb); have HB := Aside0.mk (below_step HB0.out hb); have HKT := Aside0.mk (KeepT.of hb); have HG := Aside0.mk hbox; clear hbox hb hg; have hcz0 := (blk_cell HG.out 0).trans (show _ = some (Value.int .i64 6) from rfl); have hfz0 := blk_frozen HG.out 0) | ((with_reducible refine gate_builtin (b := .append) (xs := #[.tmp 29, .tmp 31]) rfl ?_); at_builtin; refine Kd.R_append (Kd.int .u8) (w0 := w0) w0.heap.size rfl (.tmp 29) (.tmp 31) 74 5 (.int .u8 0) 1 rfl Tryz.underlying74 info5 rfl (by decide) (by omega) u0 o 123 [.int .u8 123] (fun _ => True) (fun _ => False) rfl rfl ?aP (fun _ hk => hk.elim) ?aF ?aO ?aB ?aS ?aL ?_; (case aP => exact rfl); (case aB => exact HB.out); (case aF => exact (fun _ _ => trivial)); (case aO => exact HO.out); (case aS => exact HB.out.size); (case aL => exact tc58); intro v1 w1 ho hb hg hat; clear hcz0 hfz0; clear hat; have n0_ := Aside0.mk ho; have n1_ := Aside0.mk hb; have n2_ := Aside0.mk (HKT.out.grown HO.out hg); have n3_ := Aside0.mk (((KeepT.refl _).grown HO.out hg).2 _ _ 40 _ HG.out (by decide)); clear HO HB HKT HG ho hb hg; have HO := n0_; have HB := n1_; have HKT := n2_; have HG := n3_; clear n0_ n1_ n2_ n3_; have hcz4 := (blk_cell HG.out 4).trans (show _ = some (Value.slice A4 l4.length c4) from rfl); have hfz4 := blk_frozen HG.out 4))
    clear hcz4 hfz4
    go_loopg [0, 36] k (fun kq v0 v36 w' => ∃ (o' : List Int) (i : Int), v36 = .int .i64 i ∧ Aside0 (bareL (spec_bareTo.f k) kq o' a0 ⟨6, p1, p2, l3, l4⟩ i = some r) ∧ Aside0 (kq ≤ k) ∧ Aside0 (Kd.R (Kd.int .u8) 5 w' w0.heap.size (fun _ => True) v0 o') ∧ Aside0 (w'.heap[gb]? = some (.cells #[.int .i64 6, .int .i64 p1, .int .i64 p2, .slice A3 l3.length c3, .slice A4 l4.length c4] 40 (0, 0))) ∧ Aside0 (Below w0.heap.size w0 w') ∧ Aside0 (KeepT w w'))
    case atStart => exact ⟨_, 0, rfl, H0, ⟨Nat.le_refl _⟩, HO, HG, HB, HKT⟩
    case round =>
      clear H0 HO HG HB HKT
      obtain ⟨o', i, rfl, HA, HK1, HO, HG, HB, HKT⟩ := hrel
      cases gk with
      | zero => exact absurd HA.out (by simp [bareL])
      | succ k1 =>
        have H := HA.out
        clear HA
        simp only [bareL] at H
        by_cases hlo2 : o'.length ≤ 1099511627776
        case neg => rw [if_neg hlo2] at H; cases H
        rw [if_pos hlo2] at H
        by_cases gi0 : 0 ≤ i
        case neg => rw [if_neg gi0] at H; cases H
        rw [if_pos gi0] at H
        by_cases gi4 : i < (l4.length : Int)
        · rw [if_pos gi4] at H
          have d4 : decide (i < (l4.length : Int)) = true := decide_eq_true gi4
          have q0 := eq_true gi0
          have q4 := eq_true gi4
          have HI := wrap64 (i + 1)
          rw [if_pos trivial] at H
          by_cases gi3 : i < (l3.length : Int)
          case neg => rw [if_neg gi3] at H; cases H
          rw [if_pos gi3] at H
          have q3 := eq_true gi3
          replace H := Option.bind_eq_some_iff.mp H
          obtain ⟨o2, hcut, H⟩ := H
          unfold bareCut at hcut
          by_cases n1 : 0 ≤ (rd_T84 l3 i).f0
          case neg => rw [if_neg n1] at hcut; cases hcut
          rw [if_pos n1] at hcut
          have en1 := eq_true n1
          by_cases n2 : (rd_T84 l3 i).f0 ≤ (rd_T84 l3 i).f1
          case neg => rw [if_neg n2] at hcut; cases hcut
          rw [if_pos n2] at hcut
          have en2 := eq_true n2
          by_cases n3 : (rd_T84 l3 i).f1 ≤ (a0.size : Int)
          case neg => rw [if_neg n3] at hcut; cases hcut
          rw [if_pos n3] at hcut
          have en3 := eq_true n3
          have hcut2 := Option.some.inj hcut
          clear hcut
          have hsz : (a0.extract (rd_T84 l3 i).f0.toNat (rd_T84 l3 i).f1.toNat).size ≤ a0.size := by rw [ByteArray.size_extract]; omega
          replace H := Option.bind_eq_some_iff.mp H
          obtain ⟨o3, hF, H⟩ := H
          by_cases gp : 0 < i
          · rw [if_pos gp] at hcut2
            have dp : decide (i > 0) = true := decide_eq_true gp
            have dp2 : decide (0 < i) = true := decide_eq_true gp
            subst hcut2
            have HF := Aside0.mk hF
            clear hF
            have HN := Aside0.mk H
            clear H
            have hlo3 : (o' ++ [44]).length ≤ 1099511627777 := by simp only [List.length_append, List.length_cons, List.length_nil]; omega
            go_wp2_with (first | ((with_reducible refine gate_builtin (b := .append) (xs := #[.tmp 41, .tmp 42]) rfl ?_); at_builtin; refine Kd.R_append (Kd.int .u8) (w0 := w0) w0.heap.size rfl (.tmp 41) (.tmp 42) 74 5 (.int .u8 0) 1 rfl Tryz.underlying74 info5 rfl (by decide) (by omega) _ o' 44 [.int .u8 44] (fun _ => True) (fun _ => False) rfl rfl ?aP (fun _ hk => hk.elim) ?aF ?aO ?aB ?aS ?aL ?_; (case aP => exact rfl); (case aB => exact HB.out); (case aF => exact (fun _ _ => trivial)); (case aO => exact HO.out); (case aS => exact HB.out.size); (case aL => exact tc58); intro v1 w1 ho hb hg hat; clear hat; have n0_ := Aside0.mk ho; have n1_ := Aside0.mk hb; have n2_ := Aside0.mk (HKT.out.grown HO.out hg); have n3_ := Aside0.mk (((KeepT.refl _).grown HO.out hg).2 _ _ 40 _ HG.out (by decide)); clear HO HB HKT HG ho hb hg; have HO := n0_; have HB := n1_; have HKT := n2_; have HG := n3_; clear n0_ n1_ n2_ n3_; have hcz0 := (blk_cell HG.out 0).trans (show _ = some (Value.int .i64 6) from rfl); have hfz0 := blk_frozen HG.out 0; have hcz3 := (blk_cell HG.out 3).trans (show _ = some (Value.slice A3 l3.length c3) from rfl); have hfz3 := blk_frozen HG.out 3; have hcz4 := (blk_cell HG.out 4).trans (show _ = some (Value.slice A4 l4.length c4) from rfl); have hfz4 := blk_frozen HG.out 4; obtain ⟨ad3, e3, hx30, hx31⟩ := at_T84 H3.out i gi0 gi3; cases e3; replace hx30 := (HB.out.cell (World.block_lt_of_cell? w0 _ hx30)).trans hx30; replace hx31 := (HB.out.cell (World.block_lt_of_cell? w0 _ hx31)).trans hx31))
            go_still_tail 15, (by kernel_rfl)
            have n0_ := Aside0.mk (Kd.R_drew HO.out)
            have n1_ := Aside0.mk (below_drew1 HB.out)
            have n2_ := Aside0.mk (KeepT.drew HKT.out)
            have n3_ := Aside0.mk (blk_drew HG.out)
            clear HO HB HKT HG hx30 hx31
            clear hcz0 hfz0; clear hcz3 hfz3; clear hcz4 hfz4
            have HO := n0_
            have HB := n1_
            have HKT := n2_
            have HG := n3_
            clear n0_ n1_ n2_ n3_
            change wpList _ _ _ _ _ w1.drew
            generalize w1.drew = w2 at HO HB HKT HG ⊢
            have hlo4 : ((o' ++ [44]) ++ bytesOf (a0.extract (rd_T84 l3 i).f0.toNat (rd_T84 l3 i).f1.toNat)).length ≤ 2199023255555 := by rw [List.length_append, bytesOf_length]; omega
            go_wp2_with (first | ((with_reducible refine gate_builtin (b := .append) (xs := #[.tmp 47, .tmp 61]) rfl ?_); at_builtin; refine print_append_str (w0 := w0) w0.heap.size rfl (.tmp 47) (.tmp 61) 74 9 5 rfl Tryz.underlying74 Tryz.underlying9 info5 _ (o' ++ [44]) (a0.extract (rd_T84 l3 i).f0.toNat (rd_T84 l3 i).f1.toNat) rfl rfl ?aO ?aB ?aS ?aL ?_; (case aO => exact Kd.own_of_R HO.out); (case aB => exact HB.out); (case aS => exact HB.out.size); (case aL => omega); intro v1 w1 ho0 hb hg; have ho := Kd.R_of_own (h1 := fun _ => rfl) (ok := fun _ => True) ho0 (fun _ _ => trivial); clear ho0; have n0_ := Aside0.mk ho; have n1_ := Aside0.mk hb; have n2_ := Aside0.mk (HKT.out.grown HO.out hg); have n3_ := Aside0.mk (((KeepT.refl _).grown HO.out hg).2 _ _ 40 _ HG.out (by decide)); clear HO HB HKT HG ho hb hg; have HO := n0_; have HB := n1_; have HKT := n2_; have HG := n3_; clear n0_ n1_ n2_ n3_) | ((with_reducible refine gate_builtin (b := .append) (xs := #[.tmp 63, .tmp 64]) rfl ?_); at_builtin; refine Kd.R_append (Kd.int .u8) (w0 := w0) w0.heap.size rfl (.tmp 63) (.tmp 64) 74 5 (.int .u8 0) 1 rfl Tryz.underlying74 info5 rfl (by decide) (by omega) _ ((o' ++ [44]) ++ bytesOf (a0.extract (rd_T84 l3 i).f0.toNat (rd_T84 l3 i).f1.toNat)) 58 [.int .u8 58] (fun _ => True) (fun _ => False) rfl rfl ?aP (fun _ hk => hk.elim) ?aF ?aO ?aB ?aS ?aL ?_; (case aP => exact rfl); (case aB => exact HB.out); (case aF => exact (fun _ _ => trivial)); (case aO => exact HO.out); (case aS => exact HB.out.size); (case aL => exact tc58); intro v1 w1 ho hb hg hat; clear hat; have n0_ := Aside0.mk ho; have n1_ := Aside0.mk hb; have n2_ := Aside0.mk (HKT.out.grown HO.out hg); have n3_ := Aside0.mk (((KeepT.refl _).grown HO.out hg).2 _ _ 40 _ HG.out (by decide)); clear HO HB HKT HG ho hb hg; have HO := n0_; have HB := n1_; have HKT := n2_; have HG := n3_; clear n0_ n1_ n2_ n3_; have hcz0 := (blk_cell HG.out 0).trans (show _ = some (Value.int .i64 6) from rfl); have hfz0 := blk_frozen HG.out 0; have hcz4 := (blk_cell HG.out 4).trans (show _ = some (Value.slice A4 l4.length c4) from rfl); have hfz4 := blk_frozen HG.out 4; obtain ⟨ad4, A43, c43, A44, c44, e4, hx40, hx41, hx42, hx43, hx44, hl43, hi43, hl44, hi44⟩ := at_T40 H4.out i gi0 gi4; cases e4; replace hx40 := (HB.out.cell (World.block_lt_of_cell? w0 _ hx40)).trans hx40; replace hx41 := (HB.out.cell (World.block_lt_of_cell? w0 _ hx41)).trans hx41; replace hx42 := (HB.out.cell (World.block_lt_of_cell? w0 _ hx42)).trans hx42; replace hx43 := (HB.out.cell (World.block_lt_of_cell? w0 _ hx43)).trans hx43; replace hx44 := (HB.out.cell (World.block_lt_of_cell? w0 _ hx44)).trans hx44))
            refine (ih _ _ a0 _ _ _ A43 c43 _ A44 c44 _ o3 w0 _ HB.out HO.out hi43 hl43 hi44 hl44 (by rw [S40.eta]; exact HF.out)).mono ?_
            rintro e w' ⟨v3, rfl, ho, hb, hkt⟩
            have n0_ := Aside0.mk ho
            have n1_ := Aside0.mk hb
            have n2_ := Aside0.mk (HKT.out.trans hkt)
            have n3_ := Aside0.mk (hkt.2 _ _ 40 _ HG.out (by decide))
            clear HO HB HKT HG ho hb hkt hi43 hl43 hi44 hl44 hx40 hx41 hx42 hx43 hx44
            have HO := n0_
            have HB := n1_
            have HKT := n2_
            have HG := n3_
            clear n0_ n1_ n2_ n3_
            go_wp2
            go_roundg k1
            case measure => have := HK1.out; omega
            case rel => exact ⟨o3, i + 1, by simp, HN, ⟨by have := HK1.out; omega⟩, HO, HG, HB, HKT⟩
          · rw [if_neg gp] at hcut2
            have dp : decide (i > 0) = false := decide_eq_false gp
            have dp2 : decide (0 < i) = false := decide_eq_false gp
            subst hcut2
            have HF := Aside0.mk hF
            clear hF
            have HN := Aside0.mk H
            clear H
            have hlo3 : o'.length ≤ 1099511627777 := by omega
            have hcz0 := (blk_cell HG.out 0).trans (show _ = some (Value.int .i64 6) from rfl); have hfz0 := blk_frozen HG.out 0; have hcz3 := (blk_cell HG.out 3).trans (show _ = some (Value.slice A3 l3.length c3) from rfl); have hfz3 := blk_frozen HG.out 3; have hcz4 := (blk_cell HG.out 4).trans (show _ = some (Value.slice A4 l4.length c4) from rfl); have hfz4 := blk_frozen HG.out 4
            obtain ⟨ad3, e3, hx30, hx31⟩ := at_T84 H3.out i gi0 gi3
            cases e3
            replace hx30 := (HB.out.cell (World.block_lt_of_cell? w0 _ hx30)).trans hx30
            replace hx31 := (HB.out.cell (World.block_lt_of_cell? w0 _ hx31)).trans hx31
            go_wp2
            go_still_tail 15, (by kernel_rfl)
            have n0_ := Aside0.mk (Kd.R_drew HO.out)
            have n1_ := Aside0.mk (below_drew1 HB.out)
            have n2_ := Aside0.mk (KeepT.drew HKT.out)
            have n3_ := Aside0.mk (blk_drew HG.out)
            clear HO HB HKT HG hx30 hx31
            clear hcz0 hfz0; clear hcz3 hfz3; clear hcz4 hfz4
            have HO := n0_
            have HB := n1_
            have HKT := n2_
            have HG := n3_
            clear n0_ n1_ n2_ n3_
            change wpList _ _ _ _ _ wr.drew
            generalize wr.drew = w2 at HO HB HKT HG ⊢
            have hlo4 : (o' ++ bytesOf (a0.extract (rd_T84 l3 i).f0.toNat (rd_T84 l3 i).f1.toNat)).length ≤ 2199023255555 := by rw [List.length_append, bytesOf_length]; omega
            go_wp2_with (first | ((with_reducible refine gate_builtin (b := .append) (xs := #[.tmp 47, .tmp 61]) rfl ?_); at_builtin; refine print_append_str (w0 := w0) w0.heap.size rfl (.tmp 47) (.tmp 61) 74 9 5 rfl Tryz.underlying74 Tryz.underlying9 info5 _ o' (a0.extract (rd_T84 l3 i).f0.toNat (rd_T84 l3 i).f1.toNat) rfl rfl ?aO ?aB ?aS ?aL ?_; (case aO => exact Kd.own_of_R HO.out); (case aB => exact HB.out); (case aS => exact HB.out.size); (case aL => omega); intro v1 w1 ho0 hb hg; have ho := Kd.R_of_own (h1 := fun _ => rfl) (ok := fun _ => True) ho0 (fun _ _ => trivial); clear ho0; have n0_ := Aside0.mk ho; have n1_ := Aside0.mk hb; have n2_ := Aside0.mk (HKT.out.grown HO.out hg); have n3_ := Aside0.mk (((KeepT.refl _).grown HO.out hg).2 _ _ 40 _ HG.out (by decide)); clear HO HB HKT HG ho hb hg; have HO := n0_; have HB := n1_; have HKT := n2_; have HG := n3_; clear n0_ n1_ n2_ n3_) | ((with_reducible refine gate_builtin (b := .append) (xs := #[.tmp 63, .tmp 64]) rfl ?_); at_builtin; refine Kd.R_append (Kd.int .u8) (w0 := w0) w0.heap.size rfl (.tmp 63) (.tmp 64) 74 5 (.int .u8 0) 1 rfl Tryz.underlying74 info5 rfl (by decide) (by omega) _ (o' ++ bytesOf (a0.extract (rd_T84 l3 i).f0.toNat (rd_T84 l3 i).f1.toNat)) 58 [.int .u8 58] (fun _ => True) (fun _ => False) rfl rfl ?aP (fun _ hk => hk.elim) ?aF ?aO ?aB ?aS ?aL ?_; (case aP => exact rfl); (case aB => exact HB.out); (case aF => exact (fun _ _ => trivial)); (case aO => exact HO.out); (case aS => exact HB.out.size); (case aL => exact tc58); intro v1 w1 ho hb hg hat; clear hat; have n0_ := Aside0.mk ho; have n1_ := Aside0.mk hb; have n2_ := Aside0.mk (HKT.out.grown HO.out hg); have n3_ := Aside0.mk (((KeepT.refl _).grown HO.out hg).2 _ _ 40 _ HG.out (by decide)); clear HO HB HKT HG ho hb hg; have HO := n0_; have HB := n1_; have HKT := n2_; have HG := n3_; clear n0_ n1_ n2_ n3_; have hcz0 := (blk_cell HG.out 0).trans (show _ = some (Value.int .i64 6) from rfl); have hfz0 := blk_frozen HG.out 0; have hcz4 := (blk_cell HG.out 4).trans (show _ = some (Value.slice A4 l4.length c4) from rfl); have hfz4 := blk_frozen HG.out 4; obtain ⟨ad4, A43, c43, A44, c44, e4, hx40, hx41, hx42, hx43, hx44, hl43, hi43, hl44, hi44⟩ := at_T40 H4.out i gi0 gi4; cases e4; replace hx40 := (HB.out.cell (World.block_lt_of_cell? w0 _ hx40)).trans hx40; replace hx41 := (HB.out.cell (World.block_lt_of_cell? w0 _ hx41)).trans hx41; replace hx42 := (HB.out.cell (World.block_lt_of_cell? w0 _ hx42)).trans hx42; replace hx43 := (HB.out.cell (World.block_lt_of_cell? w0 _ hx43)).trans hx43; replace hx44 := (HB.out.cell (World.block_lt_of_cell? w0 _ hx44)).trans hx44))
            refine (ih _ _ a0 _ _ _ A43 c43 _ A44 c44 _ o3 w0 _ HB.out HO.out hi43 hl43 hi44 hl44 (by rw [S40.eta]; exact HF.out)).mono ?_
            rintro e w' ⟨v3, rfl, ho, hb, hkt⟩
            have n0_ := Aside0.mk ho
            have n1_ := Aside0.mk hb
            have n2_ := Aside0.mk (HKT.out.trans hkt)
            have n3_ := Aside0.mk (hkt.2 _ _ 40 _ HG.out (by decide))
            clear HO HB HKT HG ho hb hkt hi43 hl43 hi44 hl44 hx40 hx41 hx42 hx43 hx44
            have HO := n0_
            have HB := n1_
            have HKT := n2_
            have HG := n3_
            clear n0_ n1_ n2_ n3_
            go_wp2
            go_roundg k1
            case measure => have := HK1.out; omega
            case rel => exact ⟨o3, i + 1, by simp, HN, ⟨by have := HK1.out; omega⟩, HO, HG, HB, HKT⟩
        · rw [if_neg gi4] at H
          have d4 : decide (i < (l4.length : Int)) = false := decide_eq_false gi4
          rw [if_pos trivial] at H
          obtain rfl := Option.some.inj H
          go_wp2_with (first | ((with_reducible refine gate_builtin (b := .append) (xs := #[.tmp 75, .tmp 77]) rfl ?_); at_builtin; refine Kd.R_append (Kd.int .u8) (w0 := w0) w0.heap.size rfl (.tmp 75) (.tmp 77) 74 5 (.int .u8 0) 1 rfl Tryz.underlying74 info5 rfl (by decide) (by omega) _ o' 125 [.int .u8 125] (fun _ => True) (fun _ => False) rfl rfl ?aP (fun _ hk => hk.elim) ?aF ?aO ?aB ?aS ?aL ?_; (case aP => exact rfl); (case aB => exact HB.out); (case aF => exact (fun _ _ => trivial)); (case aO => exact HO.out); (case aS => exact HB.out.size); (case aL => exact tc58); intro v1 w1 ho hb hg hat; clear hat; have n0_ := Aside0.mk ho; have n1_ := Aside0.mk hb; have n2_ := Aside0.mk (HKT.out.grown HO.out hg); have n3_ := Aside0.mk (((KeepT.refl _).grown HO.out hg).2 _ _ 40 _ HG.out (by decide)); clear HO HB HKT HG ho hb hg; have HO := n0_; have HB := n1_; have HKT := n2_; have HG := n3_; clear n0_ n1_ n2_ n3_))
          go_ret
          exact ⟨_, by first | rfl | (simp [results, Tryz.results44, go_sem]; done), HO.out, HB.out, HKT.out⟩
  · subst hk
    rw [if_pos (by decide)] at h
    rw [if_neg (by decide)] at h
    have H0 := Aside0.mk h
    clear h
    go_enter Tryz.func44, Tryz.ntmps44
    go_wp2_with (first | ((with_reducible refine gate_dst (N := 5) rfl ?_); refine box_event ?hg (N := 5) ?hd (cs := #[.int .i64 5, .int .i64 p1, .int .i64 p2, .slice A3 l3.length c3, .slice A4 l4.length c4]) (t := 40) ?hr ?_; (case hd => rfl); (case hg => rfl); (case hr => first | (go_simp; done) | (go_simp; rfl)); intro gb hg wb hbox hb; have HO := Aside0.mk (Kd.R_below HO0.out hb); have HB := Aside0.mk (below_step HB0.out hb); have HKT := Aside0.mk (KeepT.of hb); have HG := Aside0.mk hbox; clear hbox hb hg; have hcz0 := (blk_cell HG.out 0).trans (show _ = some (Value.int .i64 5) from rfl); have hfz0 := blk_frozen HG.out 0) | ((with_reducible refine gate_builtin (b := .append) (xs := #[.tmp 29, .tmp 31]) rfl ?_); at_builtin; refine Kd.R_append (Kd.int .u8) (w0 := w0) w0.heap.size rfl (.tmp 29) (.tmp 31) 74 5 (.int .u8 0) 1 rfl Tryz.underlying74 info5 rfl (by decide) (by omega) u0 o 91 [.int .u8 91] (fun _ => True) (fun _ => False) rfl rfl ?aP (fun _ hk => hk.elim) ?aF ?aO ?aB ?aS ?aL ?_; (case aP => exact rfl); (case aB => exact HB.out); (case aF => exact (fun _ _ => trivial)); (case aO => exact HO.out); (case aS => exact HB.out.size); (case aL => exact tc58); intro v1 w1 ho hb hg hat; clear hcz0 hfz0; clear hat; have n0_ := Aside0.mk ho; have n1_ := Aside0.mk hb; have n2_ := Aside0.mk (HKT.out.grown HO.out hg); have n3_ := Aside0.mk (((KeepT.refl _).grown HO.out hg).2 _ _ 40 _ HG.out (by decide)); clear HO HB HKT HG ho hb hg; have HO := n0_; have HB := n1_; have HKT := n2_; have HG := n3_; clear n0_ n1_ n2_ n3_; have hcz4 := (blk_cell HG.out 4).trans (show _ = some (Value.slice A4 l4.length c4) from rfl); have hfz4 := blk_frozen HG.out 4))
    clear hcz4 hfz4
    go_loopg [0, 36] k (fun kq v0 v36 w' => ∃ (o' : List Int) (i : Int), v36 = .int .i64 i ∧ Aside0 (bareL (spec_bareTo.f k) kq o' a0 ⟨5, p1, p2, l3, l4⟩ i = some r) ∧ Aside0 (kq ≤ k) ∧ Aside0 (Kd.R (Kd.int .u8) 5 w' w0.heap.size (fun _ => True) v0 o') ∧ Aside0 (w'.heap[gb]? = some (.cells #[.int .i64 5, .int .i64 p1, .int .i64 p2, .slice A3 l3.length c3, .slice A4 l4.length c4] 40 (0, 0))) ∧ Aside0 (Below w0.heap.size w0 w') ∧ Aside0 (KeepT w w'))
    case atStart => exact ⟨_, 0, rfl, H0, ⟨Nat.le_refl _⟩, HO, HG, HB, HKT⟩
    case round =>
      clear H0 HO HG HB HKT
      obtain ⟨o', i, rfl, HA, HK1, HO, HG, HB, HKT⟩ := hrel
      cases gk with
      | zero => exact absurd HA.out (by simp [bareL])
      | succ k1 =>
        have H := HA.out
        clear HA
        simp only [bareL] at H
        by_cases hlo2 : o'.length ≤ 1099511627776
        case neg => rw [if_neg hlo2] at H; cases H
        rw [if_pos hlo2] at H
        by_cases gi0 : 0 ≤ i
        case neg => rw [if_neg gi0] at H; cases H
        rw [if_pos gi0] at H
        by_cases gi4 : i < (l4.length : Int)
        · rw [if_pos gi4] at H
          have d4 : decide (i < (l4.length : Int)) = true := decide_eq_true gi4
          have q0 := eq_true gi0
          have q4 := eq_true gi4
          have HI := wrap64 (i + 1)
          rw [if_neg (by decide)] at H
          replace H := Option.bind_eq_some_iff.mp H
          obtain ⟨o3, hF, H⟩ := H
          by_cases gp : 0 < i
          · rw [if_pos gp] at hF
            have dp : decide (i > 0) = true := decide_eq_true gp
            have dp2 : decide (0 < i) = true := decide_eq_true gp
            have HF := Aside0.mk hF
            clear hF
            have HN := Aside0.mk H
            clear H
            have hlo3 : (o' ++ [44]).length ≤ 1099511627777 := by simp only [List.length_append, List.length_cons, List.length_nil]; omega
            go_wp2_with (first | ((with_reducible refine gate_builtin (b := .append) (xs := #[.tmp 41, .tmp 42]) rfl ?_); at_builtin; refine Kd.R_append (Kd.int .u8) (w0 := w0) w0.heap.size rfl (.tmp 41) (.tmp 42) 74 5 (.int .u8 0) 1 rfl Tryz.underlying74 info5 rfl (by decide) (by omega) _ o' 44 [.int .u8 44] (fun _ => True) (fun _ => False) rfl rfl ?aP (fun _ hk => hk.elim) ?aF ?aO ?aB ?aS ?aL ?_; (case aP => exact rfl); (case aB => exact HB.out); (case aF => exact (fun _ _ => trivial)); (case aO => exact HO.out); (case aS => exact HB.out.size); (case aL => exact tc58); intro v1 w1 ho hb hg hat; clear hat; have n0_ := Aside0.mk ho; have n1_ := Aside0.mk hb; have n2_ := Aside0.mk (HKT.out.grown HO.out hg); have n3_ := Aside0.mk (((KeepT.refl _).grown HO.out hg).2 _ _ 40 _ HG.out (by decide)); clear HO HB HKT HG ho hb hg; have HO := n0_; have HB := n1_; have HKT := n2_; have HG := n3_; clear n0_ n1_ n2_ n3_; have hcz0 := (blk_cell HG.out 0).trans (show _ = some (Value.int .i64 5) from rfl); have hfz0 := blk_frozen HG.out 0; have hcz3 := (blk_cell HG.out 3).trans (show _ = some (Value.slice A3 l3.length c3) from rfl); have hfz3 := blk_frozen HG.out 3; have hcz4 := (blk_cell HG.out 4).trans (show _ = some (Value.slice A4 l4.length c4) from rfl); have hfz4 := blk_frozen HG.out 4; obtain ⟨ad4, A43, c43, A44, c44, e4, hx40, hx41, hx42, hx43, hx44, hl43, hi43, hl44, hi44⟩ := at_T40 H4.out i gi0 gi4; cases e4; replace hx40 := (HB.out.cell (World.block_lt_of_cell? w0 _ hx40)).trans hx40; replace hx41 := (HB.out.cell (World.block_lt_of_cell? w0 _ hx41)).trans hx41; replace hx42 := (HB.out.cell (World.block_lt_of_cell? w0 _ hx42)).trans hx42; replace hx43 := (HB.out.cell (World.block_lt_of_cell? w0 _ hx43)).trans hx43; replace hx44 := (HB.out.cell (World.block_lt_of_cell? w0 _ hx44)).trans hx44))
            refine (ih _ _ a0 _ _ _ A43 c43 _ A44 c44 _ o3 w0 _ HB.out HO.out hi43 hl43 hi44 hl44 (by rw [S40.eta]; exact HF.out)).mono ?_
            rintro e w' ⟨v3, rfl, ho, hb, hkt⟩
            have n0_ := Aside0.mk ho
            have n1_ := Aside0.mk hb
            have n2_ := Aside0.mk (HKT.out.trans hkt)
            have n3_ := Aside0.mk (hkt.2 _ _ 40 _ HG.out (by decide))
            clear HO HB HKT HG ho hb hkt hi43 hl43 hi44 hl44 hx40 hx41 hx42 hx43 hx44
            have HO := n0_
            have HB := n1_
            have HKT := n2_
            have HG := n3_
            clear n0_ n1_ n2_ n3_
            go_wp2
            go_roundg k1
            case measure => have := HK1.out; omega
            case rel => exact ⟨o3, i + 1, by simp, HN, ⟨by have := HK1.out; omega⟩, HO, HG, HB, HKT⟩
          · rw [if_neg gp] at hF
            have dp : decide (i > 0) = false := decide_eq_false gp
            have dp2 : decide (0 < i) = false := decide_eq_false gp
            have HF := Aside0.mk hF
            clear hF
            have HN := Aside0.mk H
            clear H
            have hlo3 : o'.length ≤ 1099511627777 := by omega
            have hcz0 := (blk_cell HG.out 0).trans (show _ = some (Value.int .i64 5) from rfl); have hfz0 := blk_frozen HG.out 0; have hcz3 := (blk_cell HG.out 3).trans (show _ = some (Value.slice A3 l3.length c3) from rfl); have hfz3 := blk_frozen HG.out 3; have hcz4 := (blk_cell HG.out 4).trans (show _ = some (Value.slice A4 l4.length c4) from rfl); have hfz4 := blk_frozen HG.out 4
            obtain ⟨ad4, A43, c43, A44, c44, e4, hx40, hx41, hx42, hx43, hx44, hl43, hi43, hl44, hi44⟩ := at_T40 H4.out i gi0 gi4; cases e4; replace hx40 := (HB.out.cell (World.block_lt_of_cell? w0 _ hx40)).trans hx40; replace hx41 := (HB.out.cell (World.block_lt_of_cell? w0 _ hx41)).trans hx41; replace hx42 := (HB.out.cell (World.block_lt_of_cell? w0 _ hx42)).trans hx42; replace hx43 := (HB.out.cell (World.block_lt_of_cell? w0 _ hx43)).trans hx43; replace hx44 := (HB.out.cell (World.block_lt_of_cell? w0 _ hx44)).trans hx44
            go_wp2_with fail
            refine (ih _ _ a0 _ _ _ A43 c43 _ A44 c44 _ o3 w0 _ HB.out HO.out hi43 hl43 hi44 hl44 (by rw [S40.eta]; exact HF.out)).mono ?_
            rintro e w' ⟨v3, rfl, ho, hb, hkt⟩
            have n0_ := Aside0.mk ho
            have n1_ := Aside0.mk hb
            have n2_ := Aside0.mk (HKT.out.trans hkt)
            have n3_ := Aside0.mk (hkt.2 _ _ 40 _ HG.out (by decide))
            clear HO HB HKT HG ho hb hkt hi43 hl43 hi44 hl44 hx40 hx41 hx42 hx43 hx44
            have HO := n0_
            have HB := n1_
            have HKT := n2_
            have HG := n3_
            clear n0_ n1_ n2_ n3_
            go_wp2
            go_roundg k1
            case measure => have := HK1.out; omega
            case rel => exact ⟨o3, i + 1, by simp, HN, ⟨by have := HK1.out; omega⟩, HO, HG, HB, HKT⟩
        · rw [if_neg gi4] at H
          have d4 : decide (i < (l4.length : Int)) = false := decide_eq_false gi4
          rw [if_neg (by decide)] at H
          obtain rfl := Option.some.inj H
          go_wp2_with (first | ((with_reducible refine gate_builtin (b := .append) (xs := #[.tmp 75, .tmp 77]) rfl ?_); at_builtin; refine Kd.R_append (Kd.int .u8) (w0 := w0) w0.heap.size rfl (.tmp 75) (.tmp 77) 74 5 (.int .u8 0) 1 rfl Tryz.underlying74 info5 rfl (by decide) (by omega) _ o' 93 [.int .u8 93] (fun _ => True) (fun _ => False) rfl rfl ?aP (fun _ hk => hk.elim) ?aF ?aO ?aB ?aS ?aL ?_; (case aP => exact rfl); (case aB => exact HB.out); (case aF => exact (fun _ _ => trivial)); (case aO => exact HO.out); (case aS => exact HB.out.size); (case aL => exact tc58); intro v1 w1 ho hb hg hat; clear hat; have n0_ := Aside0.mk ho; have n1_ := Aside0.mk hb; have n2_ := Aside0.mk (HKT.out.grown HO.out hg); have n3_ := Aside0.mk (((KeepT.refl _).grown HO.out hg).2 _ _ 40 _ HG.out (by decide)); clear HO HB HKT HG ho hb hg; have HO := n0_; have HB := n1_; have HKT := n2_; have HG := n3_; clear n0_ n1_ n2_ n3_))
          go_ret
          exact ⟨_, by first | rfl | (simp [results, Tryz.results44, go_sem]; done), HO.out, HB.out, HKT.out⟩
  · rw [if_neg (by simp [hk5, hk6])] at h
    have b5 : (p0 != 5) = true := bne_iff_ne.2 hk5
    have b6 : (p0 != 6) = true := bne_iff_ne.2 hk6
    unfold bareCut at h
    by_cases g1 : 0 ≤ p1
    case neg => rw [if_neg g1] at h; cases h
    rw [if_pos g1] at h
    by_cases g2 : p1 ≤ p2
    case neg => rw [if_neg g2] at h; cases h
    rw [if_pos g2] at h
    by_cases g3 : p2 ≤ (a0.size : Int)
    case neg => rw [if_neg g3] at h; cases h
    rw [if_pos g3] at h
    have e1 := eq_true g1
    have e2 := eq_true g2
    have e3 := eq_true g3
    have HH := Aside0.mk (Option.some.inj h)
    clear h
    have hsz : (a0.extract p1.toNat p2.toNat).size ≤ a0.size := by rw [ByteArray.size_extract]; omega
    go_enter Tryz.func44, Tryz.ntmps44
    go_wp2_with (first | ((with_reducible refine gate_dst (N := 5) rfl ?_); refine box_event ?hg (N := 5) ?hd (cs := #[.int .i64 p0, .int .i64 p1, .int .i64 p2, .slice A3 l3.length c3, .slice A4 l4.length c4]) (t := 40) ?hr ?_; (case hd => rfl); (case hg => rfl); (case hr => first | (go_simp; done) | (go_simp; rfl)); intro gb hg wb hbox hb; have HO := Aside0.mk (Kd.R_below HO0.out hb); have HB := Aside0.mk (below_step HB0.out hb); have HKT := Aside0.mk (KeepT.of hb); have HG := Aside0.mk hbox; clear hbox hb hg; have hcz0 := (blk_cell HG.out 0).trans (show _ = some (Value.int .i64 p0) from rfl); have hfz0 := blk_frozen HG.out 0; have hcz1 := (blk_cell HG.out 1).trans (show _ = some (Value.int .i64 p1) from rfl); have hfz1 := blk_frozen HG.out 1; have hcz2 := (blk_cell HG.out 2).trans (show _ = some (Value.int .i64 p2) from rfl); have hfz2 := blk_frozen HG.out 2) | ((with_reducible refine gate_builtin (b := .append) (xs := #[.tmp 18, .tmp 24]) rfl ?_); at_builtin; refine print_append_str (w0 := w0) w0.heap.size rfl (.tmp 18) (.tmp 24) 74 9 5 rfl Tryz.underlying74 Tryz.underlying9 info5 u0 o (a0.extract p1.toNat p2.toNat) rfl rfl ?aO ?aB ?aS ?aL ?_; (case aO => exact Kd.own_of_R HO.out); (case aB => exact HB.out); (case aS => exact HB.out.size); (case aL => omega); intro v1 w1 ho0 hb hg; have ho := Kd.R_of_own (h1 := fun _ => rfl) (ok := fun _ => True) ho0 (fun _ _ => trivial); clear ho0; have HO2 := Aside0.mk ho; have HB2 := Aside0.mk hb; have KT2 := Aside0.mk (HKT.out.grown HO.out hg); clear ho hb hg HO HB))
    go_ret
    exact ⟨_, by first | rfl | (simp [results, Tryz.results44, go_sem]; done), HH.out ▸ HO2.out, HB2.out, KT2.out⟩
end Go.Proofs.YtookccnmgoocpaaGreatDoor.PTwo
