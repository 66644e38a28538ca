/- gjson's modifiers ugly and pretty, and pretty's Pretty with its defaults: what they answer, and their walks. -/
import Derived.Test.YtookccnmgoocpaaGreatDoorUgPrH
import Derived.Test.YtookccnmgoocpaaGreatDoorUgPTwox5
import Derived.Test.YtookccnmgoocpaaGreatDoorUgPTwox6
import Derived.Test.YtookccnmgoocpaaGreatDoorUgWords
namespace Go.Proofs.YtookccnmgoocpaaGreatDoor.PTwo
open Go.RowKit Go.Proofs.YtookccnmgoocpaaGreatDoorW.PrintWords Go.Proofs.YtookccnmgoocpaaGreatDoorW.PrintLast Go.Proofs.YtookccnmgoocpaaGreatDoorW.PrintMore
attribute [local go_sem] max2_int min2_int max_two min_two max_three min_three max_four min_four   -- for this text's walks alone
set_option linter.unusedVariables false
set_option linter.unusedSimpArgs false
theorem C_bytes (W : World) (s : ByteArray) (hs : s.size ≤ 2147483647) : Kd.C (Kd.int .u8) (Lib.bytesWorld W 5 s) (some ⟨W.heap.size, 0, none⟩) (bytesOf s).length (bytesOf s) := by
  have h := bytes_reads W 5 s (by omega)
  rw [← bytesOf_length] at h
  exact Kd.C_of_reads (enc := Value.int .u8) (d := (0 : Int)) h
set_option maxHeartbeats 2000000 in
theorem gjson_stringBytes.calls (s : ByteArray) (w : World) (hs : s.size ≤ 2147483647) :
    Calls Tryz.prog 85 #[.string s] w fun e w' => ∃ (ad : Addr) (c : Nat), e = .returned (.slice (some ad) (bytesOf s).length c) ∧ Kd.C (Kd.int .u8) w' (some ad) (bytesOf s).length (bytesOf s) ∧ (bytesOf s).length ≤ c ∧ Below w.heap.size w w' := by
  have kb := fun W => print_bytes (P := Tryz.prog) 9 74 5 Tryz.underlying9 Tryz.underlying74 Tryz.underlying5 s W
  go_enter Tryz.func85, Tryz.ntmps85
  go_wp2
  go_ret
  exact ⟨⟨w.heap.size, 0, none⟩, grownCap w s.size 0 5, by rw [bytesOf_length]; rfl, C_bytes w s hs, by rw [bytesOf_length]; exact grownCap_ge _ _ _ _, bytes_below (Below.refl _ _) (Nat.le_refl _) _ _⟩
/-- pretty's Pretty with its defaults. -/
def prOut (k : Nat) (l : List Int) : Option (List Int) := (fullAny k l [] 0 0 0).bind fun r => if r.1.length ≤ 1099511627776 then some (if 0 < r.1.length then r.1 ++ [10] else r.1) else none
/-- A row without elements, made with a capacity. -/
theorem make_own (w0 W : World) (n : Nat) (hn : n ≤ 2147483647) (hb : Below w0.heap.size w0 W) : ∃ W' v, (Instr.makeSlice 74 (.int .i64 0) (.int .i64 (n : Int))).run Tryz.prog W = .ok v W' ∧ Kd.R (Kd.int .u8) 5 W' w0.heap.size (fun k => w0.heap.size ≤ k) v [] ∧ Below w0.heap.size w0 W' ∧ W.grownBy W' none := by
  obtain ⟨i0, hi, hzz⟩ := Option.map_eq_some_iff.1 info5
  simp only [Prod.mk.injEq] at hzz
  obtain ⟨hz0, hz1, hz2⟩ := hzz
  obtain ⟨W', hr, ho, hg⟩ := run_make_own (P := Tryz.prog) W w0.heap.size 74 5 i0 (.int .u8 0) 1 Tryz.underlying74 hi hz0 hz1 .i64 .i64 n (by rw [hz2]; omega) (by unfold maxLen; omega) hb.size
  exact ⟨W', _, hr, Kd.R_of_own (enc := Value.int .u8) (h1 := fun _ => rfl) (xs := ([] : List Int)) ho (fun k hk => own_base ho k hk), pw_below_grown hb none hb.size hg (fun k hk => by cases hk), hg⟩
set_option maxHeartbeats 8000000 in
set_option maxRecDepth 100000 in
theorem pretty_PrettyOptions.calls (k : Nat) (A : Option Addr) (c : Nat) (l r : List Int) (w : World) (hJ : Kd.C (Kd.int .u8) w A l.length l) (hc : l.length ≤ c) (hm : l.length ≤ 2147483647) (h : prOut k l = some r) :
    Calls Tryz.prog 76 #[.slice A l.length c, .pointer none] w fun e w' => ∃ v : Value, e = .returned v ∧ Kd.R (Kd.int .u8) 5 w' w.heap.size (fun _ => True) v r ∧ Below w.heap.size w w' := by
  replace h := Option.bind_eq_some_iff.mp h
  obtain ⟨⟨r2, j2, nl2, ok2⟩, hF, h⟩ := h
  dsimp only at h
  by_cases hl2 : r2.length ≤ 1099511627776
  case neg => rw [if_neg hl2] at h; cases h
  rw [if_pos hl2] at h
  have Hr := Aside0.mk (Option.some.inj h)
  have HF := Aside0.mk hF
  have HJ := Aside0.mk hJ
  clear hF h hJ
  have hu158 := Tryz.underlying158
  go_enter Tryz.func76, Tryz.ntmps76
  go_upto_region 3 with (first | ((with_reducible refine gate_dst (N := 9) rfl ?_); refine box_event ?hg (N := 9) ?hd (cs := #[.int .i64 80, .string ⟨#[]⟩, .string ⟨#[32, 32]⟩, .bool false]) (t := 158) ?hr ?_; (case hd => rfl); (case hg => rfl); (case hr => first | (go_simp; done) | (go_simp; rfl)); intro gb hg wb hbox hb; have HB := Aside0.mk hb; have HG := Aside0.mk hbox; clear hbox hb hg))
  have hgl := blk_lt HG.out
  obtain ⟨wm, vm, hmk, hR, hBm, hgm⟩ := make_own wb wb l.length hm (Below.refl _ _)
  have HO := Aside0.mk (Kd.R_mono hR (fun _ _ => trivial) : Kd.R (Kd.int .u8) 5 wm wb.heap.size (fun _ => True) vm [])
  have HBm := Aside0.mk hBm
  have HJ2 := Aside0.mk (Kd.C_below HJ.out HB.out)
  obtain ⟨Av, cv, rfl⟩ := Kd.R_slice hR
  have hcz0 := (blk_cell HG.out 0).trans (show _ = some (Value.int .i64 80) from rfl)
  have hcz1 := (blk_cell HG.out 1).trans (show _ = some (Value.string ⟨#[]⟩) from rfl)
  have hcz2 := (blk_cell HG.out 2).trans (show _ = some (Value.string ⟨#[32, 32]⟩) from rfl)
  have hcz3 := (blk_cell HG.out 3).trans (show _ = some (Value.bool false) from rfl)
  have hd0 := (hBm.cell (p := ⟨gb, 0, none⟩) hgl).trans hcz0
  have hd1 := (hBm.cell (p := ⟨gb, 1, none⟩) hgl).trans hcz1
  have hd2 := (hBm.cell (p := ⟨gb, 2, none⟩) hgl).trans hcz2
  have hd3 := (hBm.cell (p := ⟨gb, 3, none⟩) hgl).trans hcz3
  have HC0 := Aside0.mk hcz0
  have HC1 := Aside0.mk hcz1
  have HC2 := Aside0.mk hcz2
  have HC3 := Aside0.mk hcz3
  have HGL := Aside0.mk hgl
  clear hR hBm hgm hcz0 hcz1 hcz2 hcz3 hgl
  go_upto_region 6 with (fail)
  go_region_held3 (fun w' => w'.cell? ⟨gb, 0, none⟩ = some (.int .i64 80) ∧ w'.cell? ⟨gb, 1, none⟩ = some (.string ⟨#[]⟩) ∧ w'.cell? ⟨gb, 2, none⟩ = some (.string ⟨#[32, 32]⟩) ∧ w'.cell? ⟨gb, 3, none⟩ = some (.bool false))
    (first | go_keep | (refine ⟨?_, ?_, ?_, ?_⟩ <;> assumption))
    ((go_at_call 122; refine ((full_all k).1 _ [] A c l 0 0 0 r2 j2 nl2 ok2 wb _ (by first | exact HBm.out | exact below_drew1 HBm.out) (by first | exact HO.out | exact Kd.R_drew HO.out) HJ2.out hc hm (by omega) HF.out).mono ?_; rintro e w' ⟨v3, rfl, ho, hb⟩; have hk0 := (hb.cell (p := ⟨gb, 0, none⟩) HGL.out).trans HC0.out; have hk1 := (hb.cell (p := ⟨gb, 1, none⟩) HGL.out).trans HC1.out; have hk2 := (hb.cell (p := ⟨gb, 2, none⟩) HGL.out).trans HC2.out; have hk3 := (hb.cell (p := ⟨gb, 3, none⟩) HGL.out).trans HC3.out))
  have n0_ : Aside0 (Kd.R (Kd.int .u8) 5 w' w.heap.size (fun _ => True) v3 r2) := ⟨Kd.R_of_own (enc := Value.int .u8) (own_less (Kd.own_of_R ho) HB.out.size) (fun _ _ => trivial)⟩
  have n1_ := Aside0.mk (below_then HB.out HB.out.size hb)
  clear HO HB HBm HG HJ HJ2 HC0 HC1 HC2 HC3 HGL ho hb hk0 hk1 hk2 hk3 hd0 hd1 hd2 hd3 hmk hu158
  have HO := n0_
  have HB := n1_
  clear n0_ n1_
  obtain ⟨A3, c3, rfl⟩ := Kd.R_slice HO.out
  by_cases hr : 0 < r2.length
  · have dr : decide (0 < r2.length) = true := decide_eq_true hr
    have e := Hr.out
    rw [if_pos hr] at e
    subst e
    clear Hr
    go_wp2_with (first | ((with_reducible refine gate_builtin (b := .append) (xs := #[.tmp 52, .tmp 53]) rfl ?_); at_builtin; refine Kd.R_append (Kd.int .u8) (w0 := w) w.heap.size rfl (.tmp 52) (.tmp 53) 74 5 (.int .u8 0) 1 rfl Tryz.underlying74 info5 rfl (by decide) (by omega) _ r2 10 [.int .u8 10] (fun _ => True) (fun _ => False) rfl rfl ?aP (fun _ hk => hk.elim) ?aF ?aO ?aB ?aS ?aL ?_; (case aP => exact rfl); (case aB => exact HB.out); (case aF => exact (fun _ _ => trivial)); (case aO => exact HO.out); (case aS => exact HB.out.size); (case aL => exact tc15); intro v1 w1 ho hb hg hat; have n0_ := Aside0.mk ho; have n1_ := Aside0.mk hb; clear HO HB ho hb hg hat; have HO := n0_; have HB := n1_; clear n0_ n1_))
    go_ret
    exact ⟨_, by first | rfl | (simp [results, Tryz.results76, go_sem]; done), HO.out, HB.out⟩
  · have dr : decide (0 < r2.length) = false := decide_eq_false hr
    have e := Hr.out
    rw [if_neg hr] at e
    subst e
    clear Hr
    go_wp2_with fail
    go_ret
    exact ⟨_, by first | rfl | (simp [results, Tryz.results76, go_sem]; done), HO.out, HB.out⟩
set_option maxHeartbeats 2000000 in
theorem pretty_Pretty.calls (k : Nat) (A : Option Addr) (c : Nat) (l r : List Int) (w : World) (hJ : Kd.C (Kd.int .u8) w A l.length l) (hc : l.length ≤ c) (hm : l.length ≤ 2147483647) (h : prOut k l = some r) :
    Calls Tryz.prog 45 #[.slice A l.length c] w fun e w' => ∃ v : Value, e = .returned v ∧ Kd.R (Kd.int .u8) 5 w' w.heap.size (fun _ => True) v r ∧ Below w.heap.size w w' := by
  have H := Aside0.mk h
  have HJ := Aside0.mk hJ
  clear h hJ
  go_enter Tryz.func45, Tryz.ntmps45
  go_wp2_with (go_at_call 76; refine (pretty_PrettyOptions.calls k A c l r w HJ.out hc hm H.out).mono ?_; rintro e w' ⟨v3, rfl, ho, hb⟩; have HO := Aside0.mk ho; have HB := Aside0.mk hb; clear ho hb)
  go_ret
  exact ⟨_, by first | rfl | (simp [results, Tryz.results45, go_sem]; done), HO.out, HB.out⟩
def impl_PrDefault.f (k : Nat) (a0 : ByteArray) : Option ByteArray := if a0.size ≤ 2147483647 then (prOut k (bytesOf a0)).bind fun o => some (strOfNums o) else none
set_option maxHeartbeats 2000000 in
theorem impl_PrDefault.calls (k : Nat) (a0 : ByteArray) (r : ByteArray) (w : World) (h : impl_PrDefault.f k a0 = some r) :
    Calls Tryz.prog 25 #[.string a0] w fun e w' => e = .returned (.string r) ∧ Below w.heap.size w w' := by
  unfold impl_PrDefault.f at h
  by_cases hs : a0.size ≤ 2147483647
  case neg => rw [if_neg hs] at h; cases h
  rw [if_pos hs] at h
  replace h := Option.bind_eq_some_iff.mp h
  obtain ⟨o, hF, h⟩ := h
  obtain rfl := Option.some.inj h
  have HF := Aside0.mk hF
  clear hF h
  have kb := fun W => print_bytes (P := Tryz.prog) 9 74 5 Tryz.underlying9 Tryz.underlying74 Tryz.underlying5 a0 W
  have HJ := Aside0.mk (C_bytes w a0 hs)
  have HB0 := Aside0.mk (bytes_below (Below.refl w.heap.size w) (Nat.le_refl _) 5 a0)
  have hl := bytesOf_length a0
  have hpc := pretty_Pretty.calls k (some ⟨w.heap.size, 0, none⟩) (grownCap w a0.size 0 5) (bytesOf a0) o (Lib.bytesWorld w 5 a0) HJ.out (by rw [hl]; exact grownCap_ge _ _ _ _) (by omega) HF.out
  rw [hl] at hpc
  have HP := Aside0.mk hpc
  clear hpc hl
  go_enter Tryz.func25, Tryz.ntmps25
  go_wp2_with (go_at_call 45; refine HP.out.mono ?_; rintro e w' ⟨v3, rfl, ho, hb⟩; have HO := Aside0.mk ho; have HB := Aside0.mk (below_then HB0.out HB0.out.size hb); have hcv := own_string (P := Tryz.prog) Tryz.underlying74 Tryz.underlying5 Tryz.underlying9 (Kd.own_of_R HO.out); clear ho hb kb)
  go_ret
  exact ⟨by first | rfl | (simp [results, Tryz.results25, go_sem]; done), HB.out⟩
set_option maxHeartbeats 2000000 in
theorem pretty_Ugly.calls (k : Nat) (A : Option Addr) (c : Nat) (l r : List Int) (w : World) (hJ : Kd.C (Kd.int .u8) w A l.length l) (hc : l.length ≤ c) (hm : l.length ≤ 2147483647) (h : pretty_ugly.f k [] l = some r) :
    Calls Tryz.prog 144 #[.slice A l.length c] w fun e w' => ∃ v : Value, e = .returned v ∧ Kd.R (Kd.int .u8) 5 w' w.heap.size (fun _ => True) v r ∧ Below w.heap.size w w' := by
  obtain ⟨wm, vm, hmk, hR, hBm, hgm⟩ := make_own w w l.length hm (Below.refl _ _)
  have HU := Aside0.mk (pretty_ugly.calls k (fun q => w.heap.size ≤ q) vm [] A c l r w wm hBm hR (Kd.C_kept_came (Kd.heap_int .u8) hJ hBm (fun _ h => h)) hc h)
  clear h hJ hR hBm hgm
  go_enter Tryz.func144, Tryz.ntmps144
  go_wp2_with (go_at_call 191; refine HU.out.mono ?_; rintro e w' ⟨v3, rfl, ho, hb, hk⟩; have HO := Aside0.mk ho; have HB := Aside0.mk hb; clear ho hb hk)
  go_ret
  exact ⟨_, by first | rfl | (simp [results, Tryz.results144, go_sem]; done), Kd.R_mono HO.out (fun _ _ => trivial), HB.out⟩
set_option maxHeartbeats 2000000 in
theorem gjson_modUgly.calls (k : Nat) (s : ByteArray) (a : ByteArray) (o : List Int) (w : World) (hs : s.size ≤ 2147483647) (h : pretty_ugly.f k [] (bytesOf s) = some o) :
    Calls Tryz.prog 110 #[.string s, .string a] w fun e w' => e = .returned (.string (strOfNums o)) ∧ Below w.heap.size w w' := by
  have H := Aside0.mk h
  have hl := Aside0.mk (bytesOf_length s)
  clear h
  go_enter Tryz.func110, Tryz.ntmps110
  go_wp2_with fail
  refine (gjson_stringBytes.calls s w hs).mono ?_
  rintro e w1 ⟨ad, c, rfl, hc, hcap, hb⟩
  have HB := Aside0.mk hb
  have HC := Aside0.mk hc
  clear hb hc
  go_wp2_with fail
  refine (pretty_Ugly.calls k (some ad) c (bytesOf s) o w1 HC.out hcap (by rw [hl.out]; exact hs) H.out).mono ?_
  rintro e w2 ⟨v3, rfl, ho, hb⟩
  have HO := Aside0.mk ho
  have HB2 := Aside0.mk (below_then HB.out HB.out.size hb)
  clear ho hb HB
  obtain ⟨A3, c3, rfl⟩ := Kd.R_slice HO.out
  have hrd := Kd.R_reads' HO.out
  have HR := Aside0.mk hrd.2.2
  have hcc := hrd.2.1
  clear hrd
  go_wp2_with fail
  refine (gjson_bytesString.calls A3 c3 o (strOfNums o) w2 HR.out hcc rfl).mono ?_
  rintro e w3 ⟨rfl, hd⟩
  have HB3 := Aside0.mk (below_then HB2.out HB2.out.size hd.below)
  clear HB2 hd
  go_wp2
  go_ret
  exact ⟨by first | rfl | (simp [results, Tryz.results110, go_sem]; done), HB3.out⟩
set_option maxHeartbeats 2000000 in
theorem gjson_modPretty.calls (k : Nat) (s : ByteArray) (o : List Int) (w : World) (hs : s.size ≤ 2147483647) (h : prOut k (bytesOf s) = some o) :
    Calls Tryz.prog 109 #[.string s, .string ⟨#[]⟩] w fun e w' => e = .returned (.string (strOfNums o)) ∧ Below w.heap.size w w' := by
  have H := Aside0.mk h
  have hl := Aside0.mk (bytesOf_length s)
  clear h
  go_enter Tryz.func109, Tryz.ntmps109
  go_wp2_with fail
  refine (gjson_stringBytes.calls s w hs).mono ?_
  rintro e w1 ⟨ad, c, rfl, hc, hcap, hb⟩
  have HB := Aside0.mk hb
  have HC := Aside0.mk hc
  clear hb hc
  go_wp2_with fail
  refine (pretty_Pretty.calls k (some ad) c (bytesOf s) o w1 HC.out hcap (by rw [hl.out]; exact hs) H.out).mono ?_
  rintro e w2 ⟨v3, rfl, ho, hb⟩
  have HO := Aside0.mk ho
  have HB2 := Aside0.mk (below_then HB.out HB.out.size hb)
  clear ho hb HB
  obtain ⟨A3, c3, rfl⟩ := Kd.R_slice HO.out
  have hrd := Kd.R_reads' HO.out
  have HR := Aside0.mk hrd.2.2
  have hcc := hrd.2.1
  clear hrd
  go_wp2_with fail
  refine (gjson_bytesString.calls A3 c3 o (strOfNums o) w2 HR.out hcc rfl).mono ?_
  rintro e w3 ⟨rfl, hd⟩
  have HB3 := Aside0.mk (below_then HB2.out HB2.out.size hd.below)
  clear HB2 hd
  go_wp2
  go_ret
  exact ⟨by first | rfl | (simp [results, Tryz.results109, go_sem]; done), HB3.out⟩
set_option maxHeartbeats 2000000 in
theorem gjson_getModifier.ugly (w : World) : Calls Tryz.prog 75 #[.string ⟨#[117, 103, 108, 121]⟩] w fun e w' => e = .returned (.func (.func 110) #[] #[]) ∧ w' = w := by
  go_enter Tryz.func75, Tryz.ntmps75
  go_wp2
  go_ret
  exact ⟨by first | rfl | (simp [results, Tryz.results75, go_sem]; done), rfl⟩
set_option maxHeartbeats 2000000 in
theorem gjson_getModifier.pretty (w : World) : Calls Tryz.prog 75 #[.string ⟨#[112, 114, 101, 116, 116, 121]⟩] w fun e w' => e = .returned (.func (.func 109) #[] #[]) ∧ w' = w := by
  go_enter Tryz.func75, Tryz.ntmps75
  go_wp2
  go_ret
  exact ⟨by first | rfl | (simp [results, Tryz.results75, go_sem]; done), rfl⟩
set_option maxHeartbeats 2000000 in
set_option maxRecDepth 100000 in
theorem gjson_DoorModify.ugly (k : Nat) (s : ByteArray) (a : ByteArray) (o : List Int) (w : World) (hs : s.size ≤ 2147483647) (h : pretty_ugly.f k [] (bytesOf s) = some o) :
    Calls Tryz.prog 43 #[.string ⟨#[117, 103, 108, 121]⟩, .string s, .string a] w fun e w' => e = .returned (.tuple #[.string (strOfNums o), .bool true]) ∧ Below w.heap.size w w' := by
  have H := Aside0.mk h
  clear h
  have kf : ∀ w : World, (binOp .eql 118 (.func (.func 110) #[] #[]) .nilFunc).run Tryz.prog w = .ok (.bool false) w := fun _ => by kernel_rfl
  go_enter Tryz.func43, Tryz.ntmps43
  go_wp2_with (first | (go_at_call 75; refine (gjson_getModifier.ugly _).mono ?_; rintro e w' ⟨rfl, rfl⟩) | (go_at_call 110; refine (gjson_modUgly.calls k s a o _ hs H.out).mono ?_; rintro e w' ⟨rfl, hb⟩; have HB := Aside0.mk hb; clear hb))
  go_ret2
  exact ⟨by first | rfl | (simp [results, Tryz.results43, go_sem]; done), HB.out⟩
set_option maxHeartbeats 2000000 in
set_option maxRecDepth 100000 in
theorem gjson_DoorModify.pretty (k : Nat) (s : ByteArray) (o : List Int) (w : World) (hs : s.size ≤ 2147483647) (h : prOut k (bytesOf s) = some o) :
    Calls Tryz.prog 43 #[.string ⟨#[112, 114, 101, 116, 116, 121]⟩, .string s, .string ⟨#[]⟩] w fun e w' => e = .returned (.tuple #[.string (strOfNums o), .bool true]) ∧ Below w.heap.size w w' := by
  have H := Aside0.mk h
  clear h
  have kf : ∀ w : World, (binOp .eql 118 (.func (.func 109) #[] #[]) .nilFunc).run Tryz.prog w = .ok (.bool false) w := fun _ => by kernel_rfl
  go_enter Tryz.func43, Tryz.ntmps43
  go_wp2_with (first | (go_at_call 75; refine (gjson_getModifier.pretty _).mono ?_; rintro e w' ⟨rfl, rfl⟩) | (go_at_call 109; refine (gjson_modPretty.calls k s o _ hs H.out).mono ?_; rintro e w' ⟨rfl, hb⟩; have HB := Aside0.mk hb; clear hb))
  go_ret2
  exact ⟨by first | rfl | (simp [results, Tryz.results43, go_sem]; done), HB.out⟩
def impl_GjModify.f (k : Nat) (a0 a1 a2 : ByteArray) : Option (ByteArray × Bool) :=
  if a1.size ≤ 2147483647 then (if a0 = ⟨#[117, 103, 108, 121]⟩ then (pretty_ugly.f k [] (bytesOf a1)).bind fun o => some (strOfNums o, true)
    else if a0 = ⟨#[112, 114, 101, 116, 116, 121]⟩ ∧ a2 = ⟨#[]⟩ then (prOut k (bytesOf a1)).bind fun o => some (strOfNums o, true) else none) else none
theorem GjModify_walk (nm s a : ByteArray) (o : List Int) (w : World) (hc : Calls Tryz.prog 43 #[.string nm, .string s, .string a] w fun e w' => e = .returned (.tuple #[.string (strOfNums o), .bool true]) ∧ Below w.heap.size w w') :
    Calls Tryz.prog 23 #[.string nm, .string s, .string a] w fun e w' => e = .returned (.tuple #[.string (strOfNums o), .bool true]) ∧ Below w.heap.size w w' := by
  go_enter Tryz.func23, Tryz.ntmps23
  go_wp2_with (go_at_call 43; refine hc.mono ?_; rintro e w' ⟨rfl, hb⟩; have HB := Aside0.mk hb; clear hb)
  go_ret2
  exact ⟨by first | rfl | (simp [results, Tryz.results23, go_sem]; done), HB.out⟩
theorem impl_GjModify.calls (k : Nat) (a0 a1 a2 : ByteArray) (r1 : ByteArray) (r2 : Bool) (w : World) (h : impl_GjModify.f k a0 a1 a2 = some (r1, r2)) :
    Calls Tryz.prog 23 #[.string a0, .string a1, .string a2] w fun e w' => e = .returned (.tuple #[.string r1, .bool r2]) ∧ Below w.heap.size w w' := by
  unfold impl_GjModify.f at h
  by_cases hs : a1.size ≤ 2147483647
  case neg => rw [if_neg hs] at h; cases h
  rw [if_pos hs] at h
  by_cases h1 : a0 = ⟨#[117, 103, 108, 121]⟩
  · rw [if_pos h1] at h
    replace h := Option.bind_eq_some_iff.mp h
    obtain ⟨o, hF, h⟩ := h
    simp only [Option.some.injEq, Prod.mk.injEq] at h
    obtain ⟨rfl, rfl⟩ := h
    subst h1
    exact GjModify_walk _ _ _ _ _ (gjson_DoorModify.ugly k a1 a2 o w hs hF)
  · rw [if_neg h1] at h
    by_cases h2 : a0 = ⟨#[112, 114, 101, 116, 116, 121]⟩ ∧ a2 = ⟨#[]⟩
    case neg => rw [if_neg h2] at h; cases h
    rw [if_pos h2] at h
    replace h := Option.bind_eq_some_iff.mp h
    obtain ⟨o, hF, h⟩ := h
    simp only [Option.some.injEq, Prod.mk.injEq] at h
    obtain ⟨rfl, rfl⟩ := h
    obtain ⟨rfl, rfl⟩ := h2
    exact GjModify_walk _ _ _ _ _ (gjson_DoorModify.pretty k a1 o w hs hF)
end Go.Proofs.YtookccnmgoocpaaGreatDoor.PTwo
