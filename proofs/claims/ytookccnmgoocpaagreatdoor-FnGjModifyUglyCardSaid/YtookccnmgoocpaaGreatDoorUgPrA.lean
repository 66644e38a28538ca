/- pretty's leaves: tabs, a string, a number: what they append, and their walks. -/
import Derived.Test.YtookccnmgoocpaaGreatDoorUgPTwox3
import Derived.Test.YtookccnmgoocpaaGreatDoorUgBareTo
import Derived.Test.YtookccnmgoocpaaGreatDoorUgWords
namespace Go.Proofs.YtookccnmgoocpaaGreatDoor.PTwo
open Go.RowKit Go.Proofs.YtookccnmgoocpaaGreatDoorW.PrintWords Go.Proofs.YtookccnmgoocpaaGreatDoorW.PrintLast Go.Proofs.YtookccnmgoocpaaGreatDoorW.PrintMore
attribute [local go_sem] max2_int min2_int max_two min_two max_three min_three max_four min_four   -- for this text's walks alone
set_option linter.unusedVariables false
set_option linter.unusedSimpArgs false
/-- A literal of bytes reads as they are. -/
theorem lit_reads (W : World) (xs : List Int) (h : xs.length ≤ 100) : Kd.C (Kd.int .u8) (W.alloc (.cells (nums .u8 xs).toArray 5)) (some ⟨W.heap.size, 0, none⟩) xs.length xs := by
  refine Kd.C_of_reads (enc := Value.int .u8) (d := (0 : Int)) ⟨rfl, by omega, fun _ => ⟨_, rfl, fun j hj => ?_⟩⟩
  have e := blk_cell (blk_new W (.cells (nums .u8 xs).toArray 5)) j
  have e2 : ((nums .u8 xs).toArray)[j]? = some (.int .u8 (xs.getD j 0)) := by
    simp [nums, List.getD_eq_getElem?_getD, List.getElem?_eq_getElem hj]
  rw [Addr.add_lit, Nat.zero_add]
  exact e.trans e2
set_option maxHeartbeats 4000000 in
set_option maxRecDepth 100000 in
theorem pretty_appendTabs.calls (u0 : Value) (o : List Int) (n : Nat) (w0 w : World) (hB : Below w0.heap.size w0 w) (ho0 : Kd.R (Kd.int .u8) 5 w w0.heap.size (fun _ => True) u0 o) (hn : n ≤ 1099511627776) (hl : o.length ≤ 4398046511104) :
    Calls Tryz.prog 197 #[u0, .string ⟨#[]⟩, .string ⟨#[32, 32]⟩, .int .i64 (n : Nat)] w fun e w' => ∃ v : Value, e = .returned v ∧ Kd.R (Kd.int .u8) 5 w' w0.heap.size (fun _ => True) v (o ++ List.replicate (2 * n) 32) ∧ Below w0.heap.size w0 w' := by
  have HO := Aside0.mk ho0
  have HB := Aside0.mk hB
  clear ho0 hB
  go_enter Tryz.func197, Tryz.ntmps197
  go_wp2_with fail
  go_loopg [0, 9] n (fun kq v0 v9 w' => ∃ (i : Nat), v9 = .int .i64 (i : Nat) ∧ Aside0 (i + kq = n) ∧ Aside0 (Kd.R (Kd.int .u8) 5 w' w0.heap.size (fun _ => True) v0 (o ++ List.replicate (2 * i) 32)) ∧ Aside0 (Below w0.heap.size w0 w'))
  case atStart => exact ⟨0, rfl, ⟨by omega⟩, ⟨by simpa using HO.out⟩, HB⟩
  case round =>
    clear HO HB
    obtain ⟨i, rfl, HK1, HO, HB⟩ := hrel
    cases gk with
    | zero =>
      obtain rfl : i = n := by have := HK1.out; omega
      go_wp2
      go_ret
      exact ⟨_, by first | rfl | (simp [results, Tryz.results197, go_sem]; done), HO.out, HB.out⟩
    | succ k1 =>
      have hlt : i < n := by have := HK1.out; omega
      have d1 : decide (i < n) = true := decide_eq_true hlt
      go_wp2_with (first | ((with_reducible refine gate_builtin (b := .append) (xs := #[.tmp 35, .tmp 36]) rfl ?_); at_builtin; refine Kd.R_append_rows (Kd.int .u8) (w0 := w0) w0.heap.size rfl (.tmp 35) (.tmp 36) 74 5 (.int .u8 0) 1 rfl Tryz.underlying74 info5 rfl (by decide) (by omega) _ (o ++ List.replicate (2 * i) 32) [32, 32] (some ⟨_, 0, none⟩) 2 2 (fun _ => True) (fun _ => False) rfl rfl ?aO ?aR (fun _ _ h => h) (fun _ h => h.elim) ?aF ?aB ?aS ?aL ?_; (case aR => exact (lit_reads _ [32, 32] (by decide))); (case aB => exact (below_alloc HB.out _)); (case aF => exact (fun _ _ => trivial)); (case aO => exact (Kd.R_alloc HO.out _)); (case aS => exact (below_alloc HB.out _).size); (case aL => exact tc15); intro v1 w1 ho hb hg hat; have n0_ := Aside0.mk ho; have n1_ := Aside0.mk hb; clear HO HB ho hb hg hat; have HO := n0_; have HB := n1_; clear n0_ n1_))
      go_roundg k1
      case measure => omega
      case rel => exact ⟨i + 1, by simp, ⟨by have := HK1.out; omega⟩, ⟨by have := HO.out; rwa [List.append_assoc, show List.replicate (2 * i) (32 : Int) ++ [32, 32] = List.replicate (2 * (i + 1)) 32 from by rw [show 2 * (i + 1) = 2 * i + 2 from by omega]; exact List.replicate_append_replicate (n := 2 * i) (m := 2)] at this⟩, HB⟩
/-- How many backslashes stand ahead of a place, down to another. -/
def bsC (l : List Int) (s : Nat) : Nat → Nat
  | 0 => 0
  | d + 1 => if rd l ((s + d + 1 : Nat) : Int) = 92 then bsC l s d + 1 else 0
/-- Where the string ends whose first quotation mark stands at a place, out of the rest's length. -/
def strEnd (l : List Int) (s : Nat) : Nat → Nat
  | 0 => l.length
  | d + 1 => if rd l ((l.length - (d + 1) : Nat) : Int) = 34 ∧ bsC l s (l.length - (d + 1) - 1 - s) % 2 ≠ 1 then l.length - (d + 1) + 1 else strEnd l s d
theorem bsC_le (l : List Int) (s : Nat) : ∀ d, bsC l s d ≤ d := by
  intro d
  induction d with
  | zero => exact Nat.le_refl _
  | succ d ih =>
    unfold bsC
    split <;> omega
theorem strEnd_range (l : List Int) (s : Nat) : ∀ d, d ≤ l.length → l.length - d ≤ strEnd l s d ∧ strEnd l s d ≤ l.length := by
  intro d
  induction d with
  | zero => intro _; exact ⟨by simp [strEnd], Nat.le_refl _⟩
  | succ d ih =>
    intro h
    have := ih (by omega)
    unfold strEnd
    split <;> omega
/-- A part of a list that is read. -/
theorem C_part {w : World} {A : Option Addr} {l : List Int} (h : Kd.C (Kd.int .u8) w A l.length l) (ad : Addr) (e : A = some ad) (i n : Nat) (hn : i + n ≤ l.length) : Kd.C (Kd.int .u8) w (some (ad.add i)) n ((l.drop i).take n) := by
  have h0 := Kd.reads_of_C (enc := Value.int .u8) (d := (0 : Int)) h
  refine Kd.C_of_reads (enc := Value.int .u8) (d := (0 : Int)) ⟨by rw [List.length_take, List.length_drop]; omega, by have := h0.2.1; omega, fun hp => ⟨_, rfl, fun j hj => ?_⟩⟩
  obtain ⟨ad2, e2, hc⟩ := h0.2.2 (by omega)
  rw [e] at e2
  cases e2
  have ha : (ad.add i).add j = ad.add (i + j) := by rw [Addr.add_add]
  rw [ha, hc (i + j) (by omega)]
  simp only [List.getD_eq_getElem?_getD, List.getElem?_take, List.getElem?_drop]
  rw [if_pos hj]
set_option maxHeartbeats 4000000 in
set_option maxRecDepth 100000 in
theorem pretty_appendPrettyString.calls (u0 : Value) (o : List Int) (A : Option Addr) (c : Nat) (l : List Int) (s : Nat) (nl : Int) (w0 w : World) (hB : Below w0.heap.size w0 w) (ho0 : Kd.R (Kd.int .u8) 5 w w0.heap.size (fun _ => True) u0 o) (hJ : Kd.C (Kd.int .u8) w0 A l.length l) (hc : l.length ≤ c) (hs : s < l.length) (hm : l.length ≤ 2147483647) (hl : o.length ≤ 4398046511104) :
    Calls Tryz.prog 165 #[u0, .slice A l.length c, .int .i64 (s : Nat), .int .i64 nl] w fun e w' => ∃ v : Value, e = .returned (.tuple #[v, .int .i64 ((strEnd l s (l.length - (s + 1)) : Nat) : Int), .int .i64 nl, .bool true]) ∧ Kd.R (Kd.int .u8) 5 w' w0.heap.size (fun _ => True) v (o ++ (l.drop s).take (strEnd l s (l.length - (s + 1)) - s)) ∧ Below w0.heap.size w0 w' := by
  obtain ⟨ad, rfl, _⟩ := Kd.at_int hJ (s : Nat) (Int.natCast_nonneg _) (by omega)
  have HO := Aside0.mk ho0
  have HB := Aside0.mk hB
  have HJ := Aside0.mk hJ
  clear ho0 hB hJ
  have HR := Aside0.mk (strEnd_range l s (l.length - (s + 1)) (by omega))
  generalize hE : strEnd l s (l.length - (s + 1)) = E at HR ⊢
  have HE := Aside0.mk hE
  clear hE
  go_enter Tryz.func165, Tryz.ntmps165
  go_wp2_with fail
  go_loopg [2] (l.length - (s + 1)) (fun kq v2 w' => ∃ (i : Nat), v2 = .int .i64 (i : Nat) ∧ Aside0 (i + kq = l.length ∧ s + 1 ≤ i) ∧ Aside0 (strEnd l s kq = E) ∧ Aside0 (Kd.R (Kd.int .u8) 5 w' w0.heap.size (fun _ => True) u0 o) ∧ Aside0 (Below w0.heap.size w0 w'))
  case atStart => exact ⟨s + 1, by simp, ⟨by omega⟩, HE, HO, HB⟩
  case round =>
    clear HO HB HE
    obtain ⟨i, rfl, HK1, HE, HO, HB⟩ := hrel
    cases gk with
    | zero =>
      obtain rfl : i = l.length := by have := HK1.out; omega
      obtain rfl : l.length = E := by have := HE.out; simpa [strEnd] using this
      have q1 : ((s : Nat) : Int) ≤ ((l.length : Nat) : Int) := by omega
      go_wp2_with (first | ((with_reducible refine gate_builtin (b := .append) (xs := #[.tmp 48, .tmp 52]) rfl ?_); at_builtin; refine Kd.R_append_rows (Kd.int .u8) (w0 := w0) w0.heap.size rfl (.tmp 48) (.tmp 52) 74 5 (.int .u8 0) 1 rfl Tryz.underlying74 info5 rfl (by decide) (by omega) _ o ((l.drop s).take (l.length - s)) (some (ad.add s)) (l.length - s) (c - s) (fun _ => True) (fun _ => False) rfl rfl ?aO ?aR (fun _ _ h => h) (fun _ h => h.elim) ?aF ?aB ?aS ?aL ?_; (case aR => exact (C_part (Kd.C_below HJ.out HB.out) ad rfl s (l.length - s) (by omega))); (case aB => exact HB.out); (case aF => exact (fun _ _ => trivial)); (case aO => exact HO.out); (case aS => exact HB.out.size); (case aL => exact tc15); intro v1 w1 ho hb hg hat; have n0_ := Aside0.mk ho; have n1_ := Aside0.mk hb; clear HO HB ho hb hg hat; have HO := n0_; have HB := n1_; clear n0_ n1_))
      refine bodyPost_ret (v := .tuple #[v1, .int .i64 ((l.length : Nat) : Int), .int .i64 nl, .bool true]) ?_ rfl ⟨_, rfl, HO.out, HB.out⟩
      simp [results, Tryz.results165, go_sem]
    | succ k1 =>
      have hk1 := HK1.out
      have hlt : i < l.length := by omega
      have d1 : decide (i < l.length) = true := decide_eq_true hlt
      obtain ⟨adj, ej, hxj⟩ := Kd.at_int HJ.out (i : Nat) (Int.natCast_nonneg _) (by omega); cases ej; replace hxj := (HB.out.cell (World.block_lt_of_cell? w0 _ hxj)).trans hxj; simp only [Int.toNat_natCast] at hxj
      by_cases h34 : rd l (i : Nat) = 34
      · have b34 : (rd l (i : Nat) == 34) = true := beq_iff_eq.2 h34
        go_wp2_with fail
        go_loopg [13, 14] (i - (s + 1)) (fun kq v13 v14 w' => ∃ (sc j : Nat), v13 = .int .i64 (sc : Nat) ∧ v14 = .int .i64 (j : Nat) ∧ Aside0 (j = s + kq) ∧ Aside0 (sc + bsC l s kq = bsC l s (i - (s + 1))) ∧ Aside0 (kq ≤ i - (s + 1)) ∧ Aside0 (Kd.R (Kd.int .u8) 5 w' w0.heap.size (fun _ => True) u0 o) ∧ Aside0 (Below w0.heap.size w0 w'))
        case atStart => exact ⟨0, i - 1, by simp, tc57, ⟨by omega⟩, ⟨by omega⟩, ⟨Nat.le_refl _⟩, HO, HB⟩
        case round =>
          clear HO HB
          obtain ⟨sc, j, rfl, rfl, HJ2, HS, HQ, HO, HB⟩ := hrel
          have hj := HJ2.out
          have hbs := bsC_le l s (i - (s + 1))
          have hq := HQ.out
          clear HQ
          cases gk with
          | zero =>
            have hsc : sc = bsC l s (i - (s + 1)) := by have := HS.out; simp [bsC] at this; omega
            have d2 : decide (s < j) = false := decide_eq_false (by omega)
            have Hsc := Aside0.mk hsc
            clear hsc hj hbs
            by_cases hodd : sc % 2 = 1
            · have bodd : (Int.tmod ((sc : Nat) : Int) 2 == 1) = true := by rw [beq_iff_eq, Int.tmod_eq_emod_of_nonneg (Int.natCast_nonneg _)]; omega
              go_wp2_with fail
              go_roundg k1
              case measure => omega
              case rel => exact ⟨i + 1, by simp, ⟨by omega⟩, ⟨by have := HE.out; rw [strEnd, if_neg (by rw [show l.length - (k1 + 1) = i from by omega, show i - 1 - s = i - (s + 1) from by omega, ← Hsc.out]; exact fun h => h.2 hodd)] at this; exact this⟩, HO, HB⟩
            · have bodd : (Int.tmod ((sc : Nat) : Int) 2 == 1) = false := by rw [beq_eq_false_iff_ne, Int.tmod_eq_emod_of_nonneg (Int.natCast_nonneg _)]; omega
              obtain rfl : i + 1 = E := by have := HE.out; rw [strEnd, if_pos (by rw [show l.length - (k1 + 1) = i from by omega, show i - 1 - s = i - (s + 1) from by omega, ← Hsc.out]; exact ⟨h34, hodd⟩)] at this; omega
              have q1 : ((s : Nat) : Int) ≤ ((i + 1 : Nat) : Int) := by omega
              go_wp2_with (first | ((with_reducible refine gate_builtin (b := .append) (xs := #[.tmp 48, .tmp 52]) rfl ?_); at_builtin; refine Kd.R_append_rows (Kd.int .u8) (w0 := w0) w0.heap.size rfl (.tmp 48) (.tmp 52) 74 5 (.int .u8 0) 1 rfl Tryz.underlying74 info5 rfl (by decide) (by omega) _ o ((l.drop s).take (i + 1 - s)) (some (ad.add s)) (i + 1 - s) (c - s) (fun _ => True) (fun _ => False) rfl rfl ?aO ?aR (fun _ _ h => h) (fun _ h => h.elim) ?aF ?aB ?aS ?aL ?_; (case aR => exact (C_part (Kd.C_below HJ.out HB.out) ad rfl s (i + 1 - s) (by omega))); (case aB => exact HB.out); (case aF => exact (fun _ _ => trivial)); (case aO => exact HO.out); (case aS => exact HB.out.size); (case aL => exact tc15); intro v1 w1 ho hb hg hat; have n0_ := Aside0.mk ho; have n1_ := Aside0.mk hb; clear HO HB ho hb hg hat; have HO := n0_; have HB := n1_; clear n0_ n1_))
              refine bodyPost_ret (v := .tuple #[v1, .int .i64 ((i + 1 : Nat) : Int), .int .i64 nl, .bool true]) ?_ rfl ⟨_, rfl, HO.out, HB.out⟩
              simp [results, Tryz.results165, go_sem]
          | succ q1 =>
            obtain ⟨adq, eq, hxq⟩ := Kd.at_int HJ.out (j : Nat) (Int.natCast_nonneg _) (by omega); cases eq; replace hxq := (HB.out.cell (World.block_lt_of_cell? w0 _ hxq)).trans hxq; simp only [Int.toNat_natCast] at hxq
            have hss := HS.out
            have hjl : j < l.length := by omega
            have d2 : decide (s < j) = true := decide_eq_true (by omega)
            by_cases h92 : rd l (j : Nat) = 92
            · have b92 : (rd l (j : Nat) == 92) = true := beq_iff_eq.2 h92
              rw [bsC, if_pos (by rw [show s + q1 + 1 = j from by omega]; exact h92)] at hss
              have Hss := Aside0.mk (And.intro hj hss)
              clear hj hss
              go_wp2_with fail
              go_roundg q1
              case measure => omega
              have hj := Hss.out.1
              have hss := Hss.out.2
              case rel => exact ⟨sc + 1, j - 1, by first | (simp; done) | (simp; unfold wrap64; omega), tc57, ⟨by omega⟩, ⟨by omega⟩, ⟨by omega⟩, HO, HB⟩
            · have b92 : (rd l (j : Nat) == 92) = false := beq_eq_false_iff_ne.2 h92
              rw [bsC, if_neg (by rw [show s + q1 + 1 = j from by omega]; exact h92)] at hss
              have Hsc : Aside0 (sc = bsC l s (i - (s + 1))) := ⟨by omega⟩
              clear hss hj hbs
              by_cases hodd : sc % 2 = 1
              · have bodd : (Int.tmod ((sc : Nat) : Int) 2 == 1) = true := by rw [beq_iff_eq, Int.tmod_eq_emod_of_nonneg (Int.natCast_nonneg _)]; omega
                go_wp2_with fail
                go_roundg k1
                case measure => omega
                case rel => exact ⟨i + 1, by simp, ⟨by omega⟩, ⟨by have := HE.out; rw [strEnd, if_neg (by rw [show l.length - (k1 + 1) = i from by omega, show i - 1 - s = i - (s + 1) from by omega, ← Hsc.out]; exact fun h => h.2 hodd)] at this; exact this⟩, HO, HB⟩
              · have bodd : (Int.tmod ((sc : Nat) : Int) 2 == 1) = false := by rw [beq_eq_false_iff_ne, Int.tmod_eq_emod_of_nonneg (Int.natCast_nonneg _)]; omega
                obtain rfl : i + 1 = E := by have := HE.out; rw [strEnd, if_pos (by rw [show l.length - (k1 + 1) = i from by omega, show i - 1 - s = i - (s + 1) from by omega, ← Hsc.out]; exact ⟨h34, hodd⟩)] at this; omega
                have q1 : ((s : Nat) : Int) ≤ ((i + 1 : Nat) : Int) := by omega
                go_wp2_with (first | ((with_reducible refine gate_builtin (b := .append) (xs := #[.tmp 48, .tmp 52]) rfl ?_); at_builtin; refine Kd.R_append_rows (Kd.int .u8) (w0 := w0) w0.heap.size rfl (.tmp 48) (.tmp 52) 74 5 (.int .u8 0) 1 rfl Tryz.underlying74 info5 rfl (by decide) (by omega) _ o ((l.drop s).take (i + 1 - s)) (some (ad.add s)) (i + 1 - s) (c - s) (fun _ => True) (fun _ => False) rfl rfl ?aO ?aR (fun _ _ h => h) (fun _ h => h.elim) ?aF ?aB ?aS ?aL ?_; (case aR => exact (C_part (Kd.C_below HJ.out HB.out) ad rfl s (i + 1 - s) (by omega))); (case aB => exact HB.out); (case aF => exact (fun _ _ => trivial)); (case aO => exact HO.out); (case aS => exact HB.out.size); (case aL => exact tc15); intro v1 w1 ho hb hg hat; have n0_ := Aside0.mk ho; have n1_ := Aside0.mk hb; clear HO HB ho hb hg hat; have HO := n0_; have HB := n1_; clear n0_ n1_))
                refine bodyPost_ret (v := .tuple #[v1, .int .i64 ((i + 1 : Nat) : Int), .int .i64 nl, .bool true]) ?_ rfl ⟨_, rfl, HO.out, HB.out⟩
                simp [results, Tryz.results165, go_sem]
      · have b34 : (rd l (i : Nat) == 34) = false := beq_eq_false_iff_ne.2 h34
        go_wp2_with fail
        go_roundg k1
        case measure => omega
        case rel => exact ⟨i + 1, by simp, ⟨by omega⟩, ⟨by have := HE.out; rw [strEnd, if_neg (by rw [show l.length - (k1 + 1) = i from by omega]; exact fun h => h34 h.1)] at this; exact this⟩, HO, HB⟩
/-- What ends a number. -/
def isDelim (c : Int) : Prop := c ≤ 32 ∨ c = 44 ∨ c = 58 ∨ c = 93 ∨ c = 125
instance (c : Int) : Decidable (isDelim c) := by unfold isDelim; exact inferInstance
/-- Where a number ends, out of the rest's length. -/
def numEnd (l : List Int) : Nat → Nat
  | 0 => l.length
  | d + 1 => if isDelim (rd l ((l.length - (d + 1) : Nat) : Int)) then l.length - (d + 1) else numEnd l d
set_option maxHeartbeats 4000000 in
set_option maxRecDepth 100000 in
theorem pretty_appendPrettyNumber.calls (u0 : Value) (o : List Int) (A : Option Addr) (c : Nat) (l : List Int) (s : Nat) (nl : Int) (w0 w : World) (hB : Below w0.heap.size w0 w) (ho0 : Kd.R (Kd.int .u8) 5 w w0.heap.size (fun _ => True) u0 o) (hJ : Kd.C (Kd.int .u8) w0 A l.length l) (hc : l.length ≤ c) (hs : s < l.length) (hm : l.length ≤ 2147483647) (hl : o.length ≤ 4398046511104) :
    Calls Tryz.prog 167 #[u0, .slice A l.length c, .int .i64 (s : Nat), .int .i64 nl] w fun e w' => ∃ v : Value, e = .returned (.tuple #[v, .int .i64 ((numEnd l (l.length - (s + 1)) : Nat) : Int), .int .i64 nl, .bool true]) ∧ Kd.R (Kd.int .u8) 5 w' w0.heap.size (fun _ => True) v (o ++ (l.drop s).take (numEnd l (l.length - (s + 1)) - s)) ∧ Below w0.heap.size w0 w' := by
  obtain ⟨ad, rfl, _⟩ := Kd.at_int hJ (s : Nat) (Int.natCast_nonneg _) (by omega)
  have HO := Aside0.mk ho0
  have HB := Aside0.mk hB
  have HJ := Aside0.mk hJ
  clear ho0 hB hJ
  generalize hE : numEnd l (l.length - (s + 1)) = E
  have HE := Aside0.mk hE
  clear hE
  go_enter Tryz.func167, Tryz.ntmps167
  go_wp2_with fail
  go_loopg [2] (l.length - (s + 1)) (fun kq v2 w' => ∃ (i : Nat), v2 = .int .i64 (i : Nat) ∧ Aside0 (i + kq = l.length ∧ s + 1 ≤ i) ∧ Aside0 (numEnd l kq = E) ∧ Aside0 (Kd.R (Kd.int .u8) 5 w' w0.heap.size (fun _ => True) u0 o) ∧ Aside0 (Below w0.heap.size w0 w'))
  case atStart => exact ⟨s + 1, by simp, ⟨by omega⟩, HE, HO, HB⟩
  case round =>
    clear HO HB HE
    obtain ⟨i, rfl, HK1, HE, HO, HB⟩ := hrel
    cases gk with
    | zero =>
      obtain rfl : i = l.length := by have := HK1.out; omega
      obtain rfl : l.length = E := by have := HE.out; simpa [numEnd] using this
      have q1 : ((s : Nat) : Int) ≤ ((l.length : Nat) : Int) := by omega
      go_wp2_with (first | ((with_reducible refine gate_builtin (b := .append) (xs := #[.tmp 55, .tmp 59]) rfl ?_); at_builtin; refine Kd.R_append_rows (Kd.int .u8) (w0 := w0) w0.heap.size rfl (.tmp 55) (.tmp 59) 74 5 (.int .u8 0) 1 rfl Tryz.underlying74 info5 rfl (by decide) (by omega) _ o ((l.drop s).take (l.length - s)) (some (ad.add s)) (l.length - s) (c - s) (fun _ => True) (fun _ => False) rfl rfl ?aO ?aR (fun _ _ h => h) (fun _ h => h.elim) ?aF ?aB ?aS ?aL ?_; (case aR => exact (C_part (Kd.C_below HJ.out HB.out) ad rfl s (l.length - s) (by omega))); (case aB => exact HB.out); (case aF => exact (fun _ _ => trivial)); (case aO => exact HO.out); (case aS => exact HB.out.size); (case aL => exact tc15); intro v1 w1 ho hb hg hat; have n0_ := Aside0.mk ho; have n1_ := Aside0.mk hb; clear HO HB ho hb hg hat; have HO := n0_; have HB := n1_; clear n0_ n1_))
      refine bodyPost_ret (v := .tuple #[v1, .int .i64 ((l.length : Nat) : Int), .int .i64 nl, .bool true]) ?_ rfl ⟨_, rfl, HO.out, HB.out⟩
      simp [results, Tryz.results167, go_sem]
    | succ k1 =>
      have hk1 := HK1.out
      have hlt : i < l.length := by omega
      have d1 : decide (i < l.length) = true := decide_eq_true hlt
      obtain ⟨adj, ej, hxj⟩ := Kd.at_int HJ.out (i : Nat) (Int.natCast_nonneg _) (by omega); cases ej; replace hxj := (HB.out.cell (World.block_lt_of_cell? w0 _ hxj)).trans hxj; simp only [Int.toNat_natCast] at hxj
      by_cases hd : isDelim (rd l (i : Nat))
      · obtain rfl : i = E := by have := HE.out; rw [numEnd, if_pos (by rw [show l.length - (k1 + 1) = i from by omega]; exact hd)] at this; omega
        by_cases h1 : rd l (i : Nat) ≤ 32
        · have b1 : decide (rd l (i : Nat) ≤ 32) = true := decide_eq_true h1
          have q1 : ((s : Nat) : Int) ≤ ((i : Nat) : Int) := by omega
          go_wp2_with (first | ((with_reducible refine gate_builtin (b := .append) (xs := #[.tmp 55, .tmp 59]) rfl ?_); at_builtin; refine Kd.R_append_rows (Kd.int .u8) (w0 := w0) w0.heap.size rfl (.tmp 55) (.tmp 59) 74 5 (.int .u8 0) 1 rfl Tryz.underlying74 info5 rfl (by decide) (by omega) _ o ((l.drop s).take (i - s)) (some (ad.add s)) (i - s) (c - s) (fun _ => True) (fun _ => False) rfl rfl ?aO ?aR (fun _ _ h => h) (fun _ h => h.elim) ?aF ?aB ?aS ?aL ?_; (case aR => exact (C_part (Kd.C_below HJ.out HB.out) ad rfl s (i - s) (by omega))); (case aB => exact HB.out); (case aF => exact (fun _ _ => trivial)); (case aO => exact HO.out); (case aS => exact HB.out.size); (case aL => exact tc15); intro v1 w1 ho hb hg hat; have n0_ := Aside0.mk ho; have n1_ := Aside0.mk hb; clear HO HB ho hb hg hat; have HO := n0_; have HB := n1_; clear n0_ n1_))
          refine bodyPost_ret (v := .tuple #[v1, .int .i64 ((i : Nat) : Int), .int .i64 nl, .bool true]) ?_ rfl ⟨_, rfl, HO.out, HB.out⟩
          simp [results, Tryz.results167, go_sem]
        have b1 : decide (rd l (i : Nat) ≤ 32) = false := decide_eq_false h1
        by_cases h2 : rd l (i : Nat) = 44
        · have b2 : (rd l (i : Nat) == 44) = true := beq_iff_eq.2 h2
          have q1 : ((s : Nat) : Int) ≤ ((i : Nat) : Int) := by omega
          go_wp2_with (first | ((with_reducible refine gate_builtin (b := .append) (xs := #[.tmp 55, .tmp 59]) rfl ?_); at_builtin; refine Kd.R_append_rows (Kd.int .u8) (w0 := w0) w0.heap.size rfl (.tmp 55) (.tmp 59) 74 5 (.int .u8 0) 1 rfl Tryz.underlying74 info5 rfl (by decide) (by omega) _ o ((l.drop s).take (i - s)) (some (ad.add s)) (i - s) (c - s) (fun _ => True) (fun _ => False) rfl rfl ?aO ?aR (fun _ _ h => h) (fun _ h => h.elim) ?aF ?aB ?aS ?aL ?_; (case aR => exact (C_part (Kd.C_below HJ.out HB.out) ad rfl s (i - s) (by omega))); (case aB => exact HB.out); (case aF => exact (fun _ _ => trivial)); (case aO => exact HO.out); (case aS => exact HB.out.size); (case aL => exact tc15); intro v1 w1 ho hb hg hat; have n0_ := Aside0.mk ho; have n1_ := Aside0.mk hb; clear HO HB ho hb hg hat; have HO := n0_; have HB := n1_; clear n0_ n1_))
          refine bodyPost_ret (v := .tuple #[v1, .int .i64 ((i : Nat) : Int), .int .i64 nl, .bool true]) ?_ rfl ⟨_, rfl, HO.out, HB.out⟩
          simp [results, Tryz.results167, go_sem]
        have b2 : (rd l (i : Nat) == 44) = false := beq_eq_false_iff_ne.2 h2
        by_cases h3 : rd l (i : Nat) = 58
        · have b3 : (rd l (i : Nat) == 58) = true := beq_iff_eq.2 h3
          have q1 : ((s : Nat) : Int) ≤ ((i : Nat) : Int) := by omega
          go_wp2_with (first | ((with_reducible refine gate_builtin (b := .append) (xs := #[.tmp 55, .tmp 59]) rfl ?_); at_builtin; refine Kd.R_append_rows (Kd.int .u8) (w0 := w0) w0.heap.size rfl (.tmp 55) (.tmp 59) 74 5 (.int .u8 0) 1 rfl Tryz.underlying74 info5 rfl (by decide) (by omega) _ o ((l.drop s).take (i - s)) (some (ad.add s)) (i - s) (c - s) (fun _ => True) (fun _ => False) rfl rfl ?aO ?aR (fun _ _ h => h) (fun _ h => h.elim) ?aF ?aB ?aS ?aL ?_; (case aR => exact (C_part (Kd.C_below HJ.out HB.out) ad rfl s (i - s) (by omega))); (case aB => exact HB.out); (case aF => exact (fun _ _ => trivial)); (case aO => exact HO.out); (case aS => exact HB.out.size); (case aL => exact tc15); intro v1 w1 ho hb hg hat; have n0_ := Aside0.mk ho; have n1_ := Aside0.mk hb; clear HO HB ho hb hg hat; have HO := n0_; have HB := n1_; clear n0_ n1_))
          refine bodyPost_ret (v := .tuple #[v1, .int .i64 ((i : Nat) : Int), .int .i64 nl, .bool true]) ?_ rfl ⟨_, rfl, HO.out, HB.out⟩
          simp [results, Tryz.results167, go_sem]
        have b3 : (rd l (i : Nat) == 58) = false := beq_eq_false_iff_ne.2 h3
        by_cases h4 : rd l (i : Nat) = 93
        · have b4 : (rd l (i : Nat) == 93) = true := beq_iff_eq.2 h4
          have q1 : ((s : Nat) : Int) ≤ ((i : Nat) : Int) := by omega
          go_wp2_with (first | ((with_reducible refine gate_builtin (b := .append) (xs := #[.tmp 55, .tmp 59]) rfl ?_); at_builtin; refine Kd.R_append_rows (Kd.int .u8) (w0 := w0) w0.heap.size rfl (.tmp 55) (.tmp 59) 74 5 (.int .u8 0) 1 rfl Tryz.underlying74 info5 rfl (by decide) (by omega) _ o ((l.drop s).take (i - s)) (some (ad.add s)) (i - s) (c - s) (fun _ => True) (fun _ => False) rfl rfl ?aO ?aR (fun _ _ h => h) (fun _ h => h.elim) ?aF ?aB ?aS ?aL ?_; (case aR => exact (C_part (Kd.C_below HJ.out HB.out) ad rfl s (i - s) (by omega))); (case aB => exact HB.out); (case aF => exact (fun _ _ => trivial)); (case aO => exact HO.out); (case aS => exact HB.out.size); (case aL => exact tc15); intro v1 w1 ho hb hg hat; have n0_ := Aside0.mk ho; have n1_ := Aside0.mk hb; clear HO HB ho hb hg hat; have HO := n0_; have HB := n1_; clear n0_ n1_))
          refine bodyPost_ret (v := .tuple #[v1, .int .i64 ((i : Nat) : Int), .int .i64 nl, .bool true]) ?_ rfl ⟨_, rfl, HO.out, HB.out⟩
          simp [results, Tryz.results167, go_sem]
        have b4 : (rd l (i : Nat) == 93) = false := beq_eq_false_iff_ne.2 h4
        have h5 : rd l (i : Nat) = 125 := by unfold isDelim at hd; omega
        have b5 : (rd l (i : Nat) == 125) = true := beq_iff_eq.2 h5
        have q1 : ((s : Nat) : Int) ≤ ((i : Nat) : Int) := by omega
        go_wp2_with (first | ((with_reducible refine gate_builtin (b := .append) (xs := #[.tmp 55, .tmp 59]) rfl ?_); at_builtin; refine Kd.R_append_rows (Kd.int .u8) (w0 := w0) w0.heap.size rfl (.tmp 55) (.tmp 59) 74 5 (.int .u8 0) 1 rfl Tryz.underlying74 info5 rfl (by decide) (by omega) _ o ((l.drop s).take (i - s)) (some (ad.add s)) (i - s) (c - s) (fun _ => True) (fun _ => False) rfl rfl ?aO ?aR (fun _ _ h => h) (fun _ h => h.elim) ?aF ?aB ?aS ?aL ?_; (case aR => exact (C_part (Kd.C_below HJ.out HB.out) ad rfl s (i - s) (by omega))); (case aB => exact HB.out); (case aF => exact (fun _ _ => trivial)); (case aO => exact HO.out); (case aS => exact HB.out.size); (case aL => exact tc15); intro v1 w1 ho hb hg hat; have n0_ := Aside0.mk ho; have n1_ := Aside0.mk hb; clear HO HB ho hb hg hat; have HO := n0_; have HB := n1_; clear n0_ n1_))
        refine bodyPost_ret (v := .tuple #[v1, .int .i64 ((i : Nat) : Int), .int .i64 nl, .bool true]) ?_ rfl ⟨_, rfl, HO.out, HB.out⟩
        simp [results, Tryz.results167, go_sem]
      · unfold isDelim at hd
        simp only [not_or] at hd
        obtain ⟨h1, h2, h3, h4, h5⟩ := hd
        have b1 : decide (rd l (i : Nat) ≤ 32) = false := decide_eq_false h1
        have b2 : (rd l (i : Nat) == 44) = false := beq_eq_false_iff_ne.2 h2
        have b3 : (rd l (i : Nat) == 58) = false := beq_eq_false_iff_ne.2 h3
        have b4 : (rd l (i : Nat) == 93) = false := beq_eq_false_iff_ne.2 h4
        have b5 : (rd l (i : Nat) == 125) = false := beq_eq_false_iff_ne.2 h5
        go_wp2_with fail
        go_roundg k1
        case measure => omega
        case rel => exact ⟨i + 1, by simp, ⟨by omega⟩, ⟨by have := HE.out; rw [numEnd, if_neg (by rw [show l.length - (k1 + 1) = i from by omega]; unfold isDelim; omega)] at this; exact this⟩, HO, HB⟩
end Go.Proofs.YtookccnmgoocpaaGreatDoor.PTwo
