/- The statement FnGjModifyUgly: its walk, and what the functions that it calls answer on every text. -/
import Derived.Test.YtookccnmgoocpaaGreatDoorUgPTwox0
import Derived.Test.YtookccnmgoocpaaGreatDoorUgPTwox28
import Derived.Test.YtookccnmgoocpaaGreatDoorUgPlaces
import Derived.Test.YtookccnmgoocpaaGreatDoorUgBare
import Derived.Test.YtookccnmgoocpaaGreatDoorUgModify
import Derived.Test.YtookccnmgoocpaaGreatDoorUgLayC
import Derived.Test.YtookccnmgoocpaaGreatDoorUgLayD
namespace Go.Proofs.YtookccnmgoocpaaGreatDoor.PTwo
open Go.RowKit Go.Proofs.YtookccnmgoocpaaGreatDoorW.PrintWords Go.Proofs.YtookccnmgoocpaaGreatDoorW.PrintLast Go.Proofs.YtookccnmgoocpaaGreatDoorW.PrintMore
attribute [local go_sem] max2_int min2_int max_two min_two max_three min_three max_four min_four   -- for this text's walks alone
set_option linter.unusedVariables false
set_option linter.unusedSimpArgs false
set_option maxHeartbeats 8000000 in
set_option maxRecDepth 100000 in
/-- A great text: the statement says nothing of it. -/
theorem walk_great (s : ByteArray) (w : World) (h : 2147483647 < s.size) : Calls Tryz.prog 6 #[.string s] w fun e w' => e = .returned (.bool true) ∧ Below w.heap.size w w' := by
  have b1 : decide (2147483647 < (s.size : Int)) = true := decide_eq_true (by omega)
  have b2 : decide (2147483647 < s.size) = true := decide_eq_true h
  go_enter Tryz.func6, Tryz.ntmps6
  go_wp2
  go_ret
  exact ⟨by first | rfl | (simp [results, Tryz.results6, go_sem]; done), Below.refl _ _⟩
set_option maxHeartbeats 8000000 in
set_option maxRecDepth 100000 in
/-- What is no text, or too long. -/
theorem walk_other (k : Nat) (s : ByteArray) (t0 : Int) (t1 : ByteArray) (t2 : List ByteArray) (t3 : List S25) (ok : Bool) (w : World) (h : ¬ 2147483647 < s.size) (hG : laws_gjText.f k s = some (t0, t1, t2, t3, ok)) (ho : ok = false ∨ 4096 < s.size) : Calls Tryz.prog 6 #[.string s] w fun e w' => e = .returned (.bool true) ∧ Below w.heap.size w w' := by
  have b1 : decide (2147483647 < (s.size : Int)) = false := decide_eq_false (by omega)
  have b2 : decide (2147483647 < s.size) = false := decide_eq_false h
  have HG := Aside0.mk hG
  have hu25 := Tryz.underlying25
  clear hG h
  go_enter Tryz.func6, Tryz.ntmps6
  go_upto_region 4 with (first | ((with_reducible refine gate_callee (f := 21) rfl ?_); refine goesL_ (some 16) rfl rfl Tryz.func21 (by kernel_rfl) rfl #[.string s] rfl (by (try simp only [List.map_toArray, List.map_cons, List.map_nil]); first | done | rfl) ?_; (with_reducible refine (laws_gjText.calls k s t0 t1 t2 t3 ok w HG.out).mono ?_); rintro e w5 ⟨v2, v3, rfl, ho0, ho1, hb⟩; obtain ⟨A2, c2, rfl⟩ := Kd.R_slice ho0; obtain ⟨A3, c3, rfl⟩ := Kd.R_slice ho1; refine ⟨_, rfl, ?_⟩; have HB := Aside0.mk hb; clear hb ho0 ho1) | ((with_reducible refine gate_dst (N := 3) rfl ?_); (try (refine gate_guard (by rfl) ?_; dsimp only)); refine box_event ?hg (N := 3) ?hd (cs := #[.int .i64 0, .string (⟨#[]⟩ : ByteArray), .slice none 0 0, .slice none 0 0]) (t := 25) ?hr ?_; (case hd => rfl); (case hg => rfl); (case hr => first | (go_simp; done) | (go_simp; rfl)); intro gb hg w6 hbox hb; have HB6 := Aside0.mk (below_then HB.out HB.out.size hb); have HGE := Aside0.mk (show w.heap.size ≤ gb from by rw [hg]; exact HB.out.size); have hcz0 := (blk_cell hbox 0).trans (show _ = some (Value.int .i64 0) from rfl); have hcz1 := (blk_cell hbox 1).trans (show _ = some (Value.string ⟨#[]⟩) from rfl); have hcz2 := (blk_cell hbox 2).trans (show _ = some (Value.slice none 0 0) from rfl); have hcz3 := (blk_cell hbox 3).trans (show _ = some (Value.slice none 0 0) from rfl); have hfz0 := blk_frozen hbox 0; have hfz1 := blk_frozen hbox 1; have hfz2 := blk_frozen hbox 2; have hfz3 := blk_frozen hbox 3; clear hb hbox hg HB))
  have HBW : ∀ v0 v1 v2 v3 : Value, Aside0 (Below w.heap.size w ((((w6.setCell ⟨gb, 0, none⟩ v0).setCell ⟨gb, 1, none⟩ v1).setCell ⟨gb, 2, none⟩ v2).setCell ⟨gb, 3, none⟩ v3)) := fun _ _ _ _ => ⟨below_set (below_set (below_set (below_set HB6.out HGE.out) HGE.out) HGE.out) HGE.out⟩
  have HB := HBW (.int .i64 t0) (.string t1) (.slice A2 t2.length c2) (.slice A3 t3.length c3)
  clear HBW HB6
  cases ok with
  | false =>
    go_wp2
    go_ret
    exact ⟨by first | rfl | (simp [results, Tryz.results6, go_sem]; done), HB.out⟩
  | true =>
    have h4 : 4096 < s.size := by rcases ho with h | h; exact absurd h (by decide); exact h
    have b3 : decide (4096 < (s.size : Int)) = true := decide_eq_true (by omega)
    have b4 : decide (4096 < s.size) = true := decide_eq_true h4
    clear ho
    go_wp2
    go_ret
    exact ⟨by first | rfl | (simp [results, Tryz.results6, go_sem]; done), HB.out⟩
set_option maxHeartbeats 8000000 in
set_option maxRecDepth 100000 in
/-- A text. -/
theorem walk_text (k : Nat) (s : ByteArray) (t0 : Int) (t1 : ByteArray) (t2 : List ByteArray) (t3 : List S25) (p0 p1 p2 : Int) (l3 : List S84) (l4 : List S40) (x y : ByteArray) (w : World) (h : ¬ 4096 < s.size) (hG : laws_gjText.f k s = some (t0, t1, t2, t3, true)) (hP : spec_Places.f k s = some (p0, p1, p2, l3, l4, true))
    (hU : impl_GjModify.f k ⟨#[117, 103, 108, 121]⟩ s ⟨#[]⟩ = some (x, true)) (hR : impl_GjModify.f k ⟨#[112, 114, 101, 116, 116, 121]⟩ s ⟨#[]⟩ = some (y, true)) (hS : spec_Bare.f k s p0 p1 p2 l3 l4 = some x) (hD : impl_PrDefault.f k s = some y) : Calls Tryz.prog 6 #[.string s] w fun e w' => e = .returned (.bool true) ∧ Below w.heap.size w w' := by
  have b1 : decide (2147483647 < (s.size : Int)) = false := decide_eq_false (by omega)
  have b2 : decide (2147483647 < s.size) = false := decide_eq_false (by omega)
  have b3 : decide (4096 < (s.size : Int)) = false := decide_eq_false (by omega)
  have b4 : decide (4096 < s.size) = false := decide_eq_false h
  have HG := Aside0.mk hG
  have HP := Aside0.mk hP
  have HU := Aside0.mk hU
  have HR := Aside0.mk hR
  have HS := Aside0.mk hS
  have HD := Aside0.mk hD
  have hu25 := Tryz.underlying25
  have hu40 := Tryz.underlying40
  clear hG h hP hU hR hS hD
  go_enter Tryz.func6, Tryz.ntmps6
  go_upto_region 4 with (first | ((with_reducible refine gate_callee (f := 21) rfl ?_); refine goesL_ (some 16) rfl rfl Tryz.func21 (by kernel_rfl) rfl #[.string s] rfl (by (try simp only [List.map_toArray, List.map_cons, List.map_nil]); first | done | rfl) ?_; (with_reducible refine (laws_gjText.calls k s t0 t1 t2 t3 true w HG.out).mono ?_); rintro e w5 ⟨v2, v3, rfl, ho0, ho1, hb⟩; obtain ⟨A2, c2, rfl⟩ := Kd.R_slice ho0; obtain ⟨A3, c3, rfl⟩ := Kd.R_slice ho1; refine ⟨_, rfl, ?_⟩; have HB := Aside0.mk hb; clear hb ho0 ho1) | ((with_reducible refine gate_dst (N := 3) rfl ?_); (try (refine gate_guard (by rfl) ?_; dsimp only)); refine box_event ?hg (N := 3) ?hd (cs := #[.int .i64 0, .string (⟨#[]⟩ : ByteArray), .slice none 0 0, .slice none 0 0]) (t := 25) ?hr ?_; (case hd => rfl); (case hg => rfl); (case hr => first | (go_simp; done) | (go_simp; rfl)); intro gb hg w6 hbox hb; have HB6 := Aside0.mk (below_then HB.out HB.out.size hb); have HGE := Aside0.mk (show w.heap.size ≤ gb from by rw [hg]; exact HB.out.size); have hcz0 := (blk_cell hbox 0).trans (show _ = some (Value.int .i64 0) from rfl); have hcz1 := (blk_cell hbox 1).trans (show _ = some (Value.string ⟨#[]⟩) from rfl); have hcz2 := (blk_cell hbox 2).trans (show _ = some (Value.slice none 0 0) from rfl); have hcz3 := (blk_cell hbox 3).trans (show _ = some (Value.slice none 0 0) from rfl); have hfz0 := blk_frozen hbox 0; have hfz1 := blk_frozen hbox 1; have hfz2 := blk_frozen hbox 2; have hfz3 := blk_frozen hbox 3; clear hb hbox hg HB))
  have HBW : ∀ v0 v1 v2 v3 : Value, Aside0 (Below w.heap.size w ((((w6.setCell ⟨gb, 0, none⟩ v0).setCell ⟨gb, 1, none⟩ v1).setCell ⟨gb, 2, none⟩ v2).setCell ⟨gb, 3, none⟩ v3)) := fun _ _ _ _ => ⟨below_set (below_set (below_set (below_set HB6.out HGE.out) HGE.out) HGE.out) HGE.out⟩
  have HB := HBW (.int .i64 t0) (.string t1) (.slice A2 t2.length c2) (.slice A3 t3.length c3)
  clear HBW HB6
  go_upto_region 6 with (fail)
  go_cut [5, 6] (fun v5 v6 wc => ∃ (gc : Nat) (A5 : Option Addr) (c5 : Nat) (A6 : Option Addr) (c6 : Nat), v5 = .pointer (some ⟨gc, 0, none⟩) ∧ v6 = .bool true ∧ Aside0 (wc.heap[gc]? = some (.cells #[.int .i64 p0, .int .i64 p1, .int .i64 p2, .slice A5 l3.length c5, .slice A6 l4.length c6] 40 (0, 0))) ∧ Aside0 (Kd.C k84 wc A5 l3.length l3 ∧ l3.length ≤ c5 ∧ Kd.C k40 wc A6 l4.length l4 ∧ l4.length ≤ c6) ∧ Aside0 (Below w.heap.size w wc))
  case first =>
    generalize ((((w6.setCell ⟨gb, 0, none⟩ (.int .i64 t0)).setCell ⟨gb, 1, none⟩ (.string t1)).setCell ⟨gb, 2, none⟩ (.slice A2 t2.length c2)).setCell ⟨gb, 3, none⟩ (.slice A3 t3.length c3)) = W0 at HB ⊢
    clear hcz0 hcz1 hcz2 hcz3 hfz0 hfz1 hfz2 hfz3 HG HU HR HS HD
    go_wp2_with (first | ((with_reducible refine gate_callee (f := 22) rfl ?_); refine goesL_ (some 28) rfl rfl Tryz.func22 (by kernel_rfl) rfl #[.string s] rfl (by (try simp only [List.map_toArray, List.map_cons, List.map_nil]); first | done | rfl) ?_; (with_reducible refine (spec_Places.calls k s p0 p1 p2 l3 l4 true W0 HP.out).mono ?_); rintro e wp ⟨v5, v6, rfl, ho0, ho1, hb⟩; obtain ⟨A5, c5, rfl⟩ := Kd.R_slice ho0; obtain ⟨A6, c6, rfl⟩ := Kd.R_slice ho1; refine ⟨_, rfl, ?_⟩; have HC := Aside0.mk (show Kd.C k84 wp A5 l3.length l3 ∧ l3.length ≤ c5 ∧ Kd.C k40 wp A6 l4.length l4 ∧ l4.length ≤ c6 from ⟨(Kd.R_reads' ho0).2.2, (Kd.R_reads' ho0).2.1, (Kd.R_reads' ho1).2.2, (Kd.R_reads' ho1).2.1⟩); have HBp := Aside0.mk (below_then HB.out HB.out.size hb); clear hb ho0 ho1 HB) | ((with_reducible refine gate_dst (N := 5) rfl ?_); (try (refine gate_guard (by rfl) ?_; dsimp only)); refine box_event ?hg (N := 5) ?hd (cs := #[.int .i64 0, .int .i64 0, .int .i64 0, .slice none 0 0, .slice none 0 0]) (t := 40) ?hr ?_; (case hd => rfl); (case hg => rfl); (case hr => first | (go_simp; done) | (go_simp; rfl)); intro gc hgc wq hbox hb; have BK := Aside0.mk hbox; have HBq := Aside0.mk hb; have HGC := Aside0.mk (show wp.heap.size ≤ gc from Nat.le_of_eq hgc.symm); have hcy0 := (blk_cell hbox 0).trans (show _ = some (Value.int .i64 0) from rfl); have hcy1 := (blk_cell hbox 1).trans (show _ = some (Value.int .i64 0) from rfl); have hcy2 := (blk_cell hbox 2).trans (show _ = some (Value.int .i64 0) from rfl); have hcy3 := (blk_cell hbox 3).trans (show _ = some (Value.slice none 0 0) from rfl); have hcy4 := (blk_cell hbox 4).trans (show _ = some (Value.slice none 0 0) from rfl); have hfy0 := blk_frozen hbox 0; have hfy1 := blk_frozen hbox 1; have hfy2 := blk_frozen hbox 2; have hfy3 := blk_frozen hbox 3; have hfy4 := blk_frozen hbox 4; clear hb hbox hgc))
    go_meet
    case rel =>
      have HBr : ∀ v0 v1 v2 v3 v4 : Value, Below wp.heap.size wp (((((wq.setCell ⟨gc, 0, none⟩ v0).setCell ⟨gc, 1, none⟩ v1).setCell ⟨gc, 2, none⟩ v2).setCell ⟨gc, 3, none⟩ v3).setCell ⟨gc, 4, none⟩ v4) := fun _ _ _ _ _ => below_set (below_set (below_set (below_set (below_set HBq.out HGC.out) HGC.out) HGC.out) HGC.out) HGC.out
      have hb := HBr (.int .i64 p0) (.int .i64 p1) (.int .i64 p2) (.slice A5 l3.length c5) (.slice A6 l4.length c6)
      refine ⟨gc, A5, c5, A6, c6, rfl, rfl, ⟨?_⟩, ⟨Kd.C_below HC.out.1 hb, HC.out.2.1, Kd.C_below HC.out.2.2.1 hb, HC.out.2.2.2⟩, ⟨below_then HBp.out HBp.out.size hb⟩⟩
      refine blk_put (cs := #[.int .i64 p0, .int .i64 p1, .int .i64 p2, .slice A5 l3.length c5, .slice none 0 0]) ?_ 4 _ rfl
      refine blk_put (cs := #[.int .i64 p0, .int .i64 p1, .int .i64 p2, .slice none 0 0, .slice none 0 0]) ?_ 3 _ rfl
      refine blk_put (cs := #[.int .i64 p0, .int .i64 p1, .int .i64 0, .slice none 0 0, .slice none 0 0]) ?_ 2 _ rfl
      refine blk_put (cs := #[.int .i64 p0, .int .i64 0, .int .i64 0, .slice none 0 0, .slice none 0 0]) ?_ 1 _ rfl
      refine blk_put (cs := #[.int .i64 0, .int .i64 0, .int .i64 0, .slice none 0 0, .slice none 0 0]) ?_ 0 _ rfl
      exact BK.out
  case rest =>
    clear HB HGE hcz0 hcz1 hcz2 hcz3 hfz0 hfz1 hfz2 hfz3 HG HP
    obtain ⟨gc, A5, c5, A6, c6, rfl, rfl, BK, HC, HB⟩ := hcut
    go_upto_region 8 with (go_at_call 23; refine (impl_GjModify.calls k _ s _ x true wc HU.out).mono ?_; rintro e w7 ⟨rfl, hb⟩; have BK7 := Aside0.mk (blk_below BK.out hb); have HC7 := Aside0.mk (show Kd.C k84 w7 A5 l3.length l3 ∧ l3.length ≤ c5 ∧ Kd.C k40 w7 A6 l4.length l4 ∧ l4.length ≤ c6 from ⟨Kd.C_below HC.out.1 hb, HC.out.2.1, Kd.C_below HC.out.2.2.1 hb, HC.out.2.2.2⟩); have HB7 := Aside0.mk (below_then HB.out HB.out.size hb); clear hb BK HC HB)
    go_upto_region 9 with (go_at_call 23; refine (impl_GjModify.calls k _ s _ y true w7 HR.out).mono ?_; rintro e w8 ⟨rfl, hb⟩; have BK8 := Aside0.mk (blk_below BK7.out hb); have HC8 := Aside0.mk (show Kd.C k84 w8 A5 l3.length l3 ∧ l3.length ≤ c5 ∧ Kd.C k40 w8 A6 l4.length l4 ∧ l4.length ≤ c6 from ⟨Kd.C_below HC7.out.1 hb, HC7.out.2.1, Kd.C_below HC7.out.2.2.1 hb, HC7.out.2.2.2⟩); have HB8 := Aside0.mk (below_then HB7.out HB7.out.size hb); clear hb BK7 HC7 HB7)
    have hcz0 := (blk_cell BK8.out 0).trans (show _ = some (Value.int .i64 p0) from rfl)
    have hcz1 := (blk_cell BK8.out 1).trans (show _ = some (Value.int .i64 p1) from rfl)
    have hcz2 := (blk_cell BK8.out 2).trans (show _ = some (Value.int .i64 p2) from rfl)
    have hcz3 := (blk_cell BK8.out 3).trans (show _ = some (Value.slice A5 l3.length c5) from rfl)
    have hcz4 := (blk_cell BK8.out 4).trans (show _ = some (Value.slice A6 l4.length c6) from rfl)
    go_wp2_with (first | (go_at_call 24; refine (spec_Bare.calls k s p0 p1 p2 A5 c5 l3 A6 c6 l4 x w8 HC8.out.1 HC8.out.2.1 HC8.out.2.2.1 HC8.out.2.2.2 HS.out).mono ?_; rintro e w9 ⟨rfl, hb⟩; have HB9 := Aside0.mk (below_then HB8.out HB8.out.size hb); clear hb hcz0 hcz1 hcz2 hcz3 hcz4 BK8 HC8) | (go_at_call 25; refine (impl_PrDefault.calls k s y w9 HD.out).mono ?_; rintro e w10 ⟨rfl, hb⟩; have HB10 := Aside0.mk (below_then HB9.out HB9.out.size hb); clear hb HB9 HB8))
    go_ret
    exact ⟨by first | rfl | (simp [results, Tryz.results6, go_sem]; done), HB10.out⟩
theorem modify_ugly {s : ByteArray} (hs : s.size ≤ 4096) {B : List Int} (h : Ev (fun k => pretty_ugly.f k [] (bytesOf s)) B) : Ev (fun k => impl_GjModify.f k ⟨#[117, 103, 108, 121]⟩ s ⟨#[]⟩) (strOfNums B, true) := by
  refine Ev.congr (f := fun k => (pretty_ugly.f k [] (bytesOf s)).bind fun o => some (strOfNums o, true)) (fun k => ?_) (Ev.bind h (Ev.now _))
  unfold impl_GjModify.f
  rw [if_pos (by omega), if_pos rfl]
theorem modify_pretty {s : ByteArray} (hs : s.size ≤ 4096) {r : List Int} (h : Ev (fun k => prOut k (bytesOf s)) r) : Ev (fun k => impl_GjModify.f k ⟨#[112, 114, 101, 116, 116, 121]⟩ s ⟨#[]⟩) (strOfNums r, true) := by
  refine Ev.congr (f := fun k => (prOut k (bytesOf s)).bind fun o => some (strOfNums o, true)) (fun k => ?_) (Ev.bind h (Ev.now _))
  unfold impl_GjModify.f
  rw [if_pos (by omega), if_neg (by intro h; injection h with h; simp at h), if_pos ⟨rfl, rfl⟩]
theorem prDefault_runs {s : ByteArray} (hs : s.size ≤ 4096) {r : List Int} (h : Ev (fun k => prOut k (bytesOf s)) r) : Ev (fun k => impl_PrDefault.f k s) (strOfNums r) := by
  refine Ev.congr (f := fun k => (prOut k (bytesOf s)).bind fun o => some (strOfNums o)) (fun k => ?_) (Ev.bind h (Ev.now _))
  unfold impl_PrDefault.f
  rw [if_pos (by omega)]
/-- THE STATEMENT, walked: whatever the text, it answers true. -/
theorem ugly_walk (s : ByteArray) (w : World) : Calls Tryz.prog 6 #[.string s] w fun e w' => e = .returned (.bool true) ∧ Below w.heap.size w w' := by
  by_cases hbig : 2147483647 < s.size
  · exact walk_great s w hbig
  obtain ⟨t, ok, ⟨K0, e0⟩, hyes⟩ := gjText_runs s
  by_cases ho : ok = false ∨ 4096 < s.size
  · exact walk_other K0 s t.f0 t.f1 t.f2 t.f3 ok w hbig (e0 K0 (Nat.le_refl _)) ho
  obtain rfl : ok = true := by
    cases ok with
    | true => rfl
    | false => exact absurd (Or.inl rfl) ho
  have h4 : s.size ≤ 4096 := by
    by_cases h : 4096 < s.size
    · exact absurd (Or.inr h) ho
    · omega
  obtain ⟨h65, p, hT, hR, ⟨K1, e1⟩⟩ := hyes rfl
  obtain ⟨B, hB, eU, eB⟩ := bare_text h4 hT
  obtain ⟨r, j, nl2, ok2, eF, hr⟩ := full_text h4 hT
  have eP : Ev (fun k => prOut k (bytesOf s)) (if 0 < r.length then r ++ [10] else r) := by
    unfold prOut
    refine Ev.bind eF ?_
    exact Ev.congr (fun k => if_pos (by dsimp only; omega)) (Ev.now _)
  have eR : Ev (fun k => spec_Bare.f k s p.f0 p.f1 p.f2 p.f3 p.f4) (strOfNums B) := by
    unfold spec_Bare.f
    simp only [S40.eta]
    exact Ev.bind eB (Ev.now _)
  obtain ⟨K2, e2⟩ := modify_ugly h4 eU
  obtain ⟨K3, e3⟩ := modify_pretty h4 eP
  obtain ⟨K4, e4⟩ := eR
  obtain ⟨K5, e5⟩ := prDefault_runs h4 eP
  exact walk_text (K0 + K1 + K2 + K3 + K4 + K5) s t.f0 t.f1 t.f2 t.f3 p.f0 p.f1 p.f2 p.f3 p.f4 _ _ w (by omega) (e0 _ (by omega)) (e1 _ (by omega)) (e2 _ (by omega)) (e3 _ (by omega)) (e4 _ (by omega)) (e5 _ (by omega))
end Go.Proofs.YtookccnmgoocpaaGreatDoor.PTwo
