/- What functions of the program answer, and their walks: printed by a program out of the translation, and cut to what this claim reaches. -/
import Derived.Test.YtookccnmgoocpaaGreatDoorUgPTwox0
import Derived.Test.YtookccnmgoocpaaGreatDoorUgPTwox1
import Derived.Test.YtookccnmgoocpaaGreatDoorUgPTwox7
import Derived.Test.YtookccnmgoocpaaGreatDoorUgPTwox8
import Derived.Test.YtookccnmgoocpaaGreatDoorUgPTwox9
import Derived.Test.YtookccnmgoocpaaGreatDoorUgPTwox10
import Derived.Test.YtookccnmgoocpaaGreatDoorUgPTwox11
import Derived.Test.YtookccnmgoocpaaGreatDoorUgVHyp
import Derived.Test.YtookccnmgoocpaaGreatDoorUgWords
namespace Go.Proofs.YtookccnmgoocpaaGreatDoor.PTwo
open Go.RowKit Go.Proofs.YtookccnmgoocpaaGreatDoorW.PrintWords Go.Proofs.YtookccnmgoocpaaGreatDoorW.PrintLast Go.Proofs.YtookccnmgoocpaaGreatDoorW.PrintMore
attribute [local go_sem] max2_int min2_int max_two min_two max_three min_three max_four min_four   -- for this text's walks alone
set_option linter.unusedVariables false
set_option linter.unusedSimpArgs false
def spec_reader_value.j0 : Nat → Bool → Bool → ByteArray → Int → Int → Int → Int → Option (Int × Int × Int × (List (S84)) × (List (S40)) × Bool × ByteArray × Int)
  | 0, _, _, _, _, _, _, _ => none
  | k + 1, x5, x42, x1000, x1001, x277000, x277001, x277002 => if x42 = true then ((spec_reader_number.f k x1000 x1001).bind fun bt298 => (some (3, x277001, bt298.2.2, ([] : List (S84)), ([] : List (S40)), bt298.1, bt298.2.1, bt298.2.2))) else ((spec_reader_word.f x1000 x1001 (⟨#[110, 117, 108, 108]⟩ : ByteArray)).bind fun bt301 => (if bt301.1 = true then (some (0, x277001, bt301.2.2, ([] : List (S84)), ([] : List (S40)), x5, bt301.2.1, bt301.2.2)) else ((spec_reader_word.f bt301.2.1 bt301.2.2 (⟨#[102, 97, 108, 115, 101]⟩ : ByteArray)).bind fun bt304 => (if bt304.1 = true then (some (1, x277001, bt304.2.2, ([] : List (S84)), ([] : List (S40)), x5, bt304.2.1, bt304.2.2)) else ((spec_reader_word.f bt304.2.1 bt304.2.2 (⟨#[116, 114, 117, 101]⟩ : ByteArray)).bind fun bt307 => (if bt307.1 = true then (some (2, x277001, bt307.2.2, ([] : List (S84)), ([] : List (S40)), x5, bt307.2.1, bt307.2.2)) else (some (x277000, x277001, bt307.2.2, ([] : List (S84)), ([] : List (S40)), false, bt307.2.1, bt307.2.2))))))))
variable [HasV]
def spec_reader_value.f (k : Nat) (s0_0 : ByteArray) (s0_1 : Int) : Option (Int × Int × Int × (List (S84)) × (List (S40)) × Bool × ByteArray × Int) := (spec_reader_here.f s0_0 s0_1).bind fun bt277 => (if bt277.1 = 123 then ((spec_reader_members.f k bt277.2.1 bt277.2.2).bind fun bt280 => (some (6, s0_1, bt280.2.2.2.2, bt280.1, bt280.2.1, bt280.2.2.1, bt280.2.2.2.1, bt280.2.2.2.2))) else (if bt277.1 = 91 then ((spec_reader_elements.f k bt277.2.1 bt277.2.2).bind fun bt289 => (some (5, s0_1, bt289.2.2.2, ([] : List (S84)), bt289.1, bt289.2.1, bt289.2.2.1, bt289.2.2.2))) else (if bt277.1 = 34 then ((spec_reader_quoted.f k bt277.2.1 bt277.2.2).bind fun bt295 => (some (4, s0_1, bt295.2.2, ([] : List (S84)), ([] : List (S40)), bt295.1, bt295.2.1, bt295.2.2))) else (if bt277.1 = 45 then (spec_reader_value.j0 k true true bt277.2.1 bt277.2.2 0 s0_1 0) else (if 48 ≤ bt277.1 then (spec_reader_value.j0 k true (decide (bt277.1 ≤ 57)) bt277.2.1 bt277.2.2 0 s0_1 0) else (spec_reader_value.j0 k true false bt277.2.1 bt277.2.2 0 s0_1 0))))))
omit [HasV] in
theorem spec_reader_value.mono_l : ∀ k, (∀ y0 y1 y2 y3 y4 y5 y6, LeO (spec_reader_value.j0 k y0 y1 y2 y3 y4 y5 y6) (spec_reader_value.j0 (k + 1) y0 y1 y2 y3 y4 y5 y6))
  | 0 => fun _ _ _ _ _ _ _ r h => by simp [spec_reader_value.j0] at h
  | k + 1 => by
    have ih0 := spec_reader_value.mono_l k
    · intro y0 y1 y2 y3 y4 y5 y6
      unfold spec_reader_value.j0
      repeat' first
      | (with_reducible exact ih0 _ _ _ _ _ _ _)
      | (with_reducible exact spec_reader_elements.mono _ _ _)
      | (with_reducible exact spec_reader_members.mono _ _ _)
      | (with_reducible exact spec_reader_number.mono _ _ _)
      | (with_reducible exact spec_reader_quoted.mono _ _ _)
      | (with_reducible exact LeO.refl _)
      | (with_reducible exact LeO.none _)
      | (with_reducible refine LeO.ite ?_ ?_)
      | (with_reducible refine LeO.bind ?_ (fun _ => ?_))
      | exact ih0 _ _ _ _ _ _ _
      | exact spec_reader_elements.mono _ _ _
      | exact spec_reader_members.mono _ _ _
      | exact spec_reader_number.mono _ _ _
      | exact spec_reader_quoted.mono _ _ _
      | exact LeO.none _
      | refine LeO.ite ?_ ?_
      | refine LeO.bind ?_ (fun _ => ?_)
theorem spec_reader_value.mono : ∀ a0 a1 k, LeO (spec_reader_value.f k a0 a1) (spec_reader_value.f (k + 1) a0 a1) := by
  intro a0 a1 k
  have ih0 := spec_reader_value.mono_l k
  unfold spec_reader_value.f
  repeat' first
      | (with_reducible exact ih0 _ _ _ _ _ _ _)
      | (with_reducible exact spec_reader_elements.mono _ _ _)
      | (with_reducible exact spec_reader_members.mono _ _ _)
      | (with_reducible exact spec_reader_number.mono _ _ _)
      | (with_reducible exact spec_reader_quoted.mono _ _ _)
      | (with_reducible exact LeO.refl _)
      | (with_reducible exact LeO.none _)
      | (with_reducible refine LeO.ite ?_ ?_)
      | (with_reducible refine LeO.bind ?_ (fun _ => ?_))
      | exact ih0 _ _ _ _ _ _ _
      | exact spec_reader_elements.mono _ _ _
      | exact spec_reader_members.mono _ _ _
      | exact spec_reader_number.mono _ _ _
      | exact spec_reader_quoted.mono _ _ _
      | exact LeO.none _
      | refine LeO.ite ?_ ?_
      | refine LeO.bind ?_ (fun _ => ?_)
set_option maxHeartbeats 8000000 in
set_option maxRecDepth 100000 in
theorem spec_reader_value.calls (k : Nat) (g : Nat) (s0_0 : ByteArray) (s0_1 : Int) (r1 : Int) (r2 : Int) (r3 : Int) (r4 : List (S84)) (r5 : List (S40)) (r6 : Bool) (r7 : ByteArray) (r8 : Int) (w0 w : World) (hI : IsS79 w0 w g s0_0 s0_1) (hB : Below w0.heap.size w0 w) (h : spec_reader_value.f k s0_0 s0_1 = some (r1, r2, r3, r4, r5, r6, r7, r8)) :
    Calls Tryz.prog 42 #[.pointer (some ⟨g, 0, none⟩)] w fun e w' => ∃ v3_ v4_ : Value, e = .returned (.tuple #[.agg #[.int .i64 r1, .int .i64 r2, .int .i64 r3, v3_, v4_], .bool r6]) ∧ Kd.R k84 84 w' w.heap.size (fun _ => True) v3_ r4 ∧ Kd.R k40 40 w' w.heap.size (fun k_ => some k_ ≠ (v3_ : Value).ownBlock) v4_ r5 ∧ IsS79 w0 w' g r7 r8 ∧ Below w0.heap.size w0 w' ∧ KeepBut w w' g none := by
  have hu40 := Tryz.underlying40
  have HI0 := Aside0.mk hI
  have HK := Aside0.mk (KeepBut.refl w g none)
  have HL := Aside0.mk hB.size
  clear hI
  have HW0 := Aside0.mk hB.size
  have HB := Aside0.mk hB
  clear hB
  have H : ((spec_reader_here.f s0_0 s0_1).bind fun bt277 => (if bt277.1 = 123 then ((spec_reader_members.f k bt277.2.1 bt277.2.2).bind fun bt280 => (some (6, s0_1, bt280.2.2.2.2, bt280.1, bt280.2.1, bt280.2.2.1, bt280.2.2.2.1, bt280.2.2.2.2))) else (if bt277.1 = 91 then ((spec_reader_elements.f k bt277.2.1 bt277.2.2).bind fun bt289 => (some (5, s0_1, bt289.2.2.2, ([] : List (S84)), bt289.1, bt289.2.1, bt289.2.2.1, bt289.2.2.2))) else (if bt277.1 = 34 then ((spec_reader_quoted.f k bt277.2.1 bt277.2.2).bind fun bt295 => (some (4, s0_1, bt295.2.2, ([] : List (S84)), ([] : List (S40)), bt295.1, bt295.2.1, bt295.2.2))) else (if bt277.1 = 45 then (spec_reader_value.j0 k true true bt277.2.1 bt277.2.2 0 s0_1 0) else (if 48 ≤ bt277.1 then (spec_reader_value.j0 k true (decide (bt277.1 ≤ 57)) bt277.2.1 bt277.2.2 0 s0_1 0) else (spec_reader_value.j0 k true false bt277.2.1 bt277.2.2 0 s0_1 0))))))) = some (r1, r2, r3, r4, r5, r6, r7, r8) := h
  clear h
  replace H := Option.bind_eq_some_iff.mp H
  obtain ⟨⟨t277, t278, t279⟩, A20, H⟩ := H
  replace H : (if t277 = 123 then ((spec_reader_members.f k t278 t279).bind fun bt280 => (some (6, s0_1, bt280.2.2.2.2, bt280.1, bt280.2.1, bt280.2.2.1, bt280.2.2.2.1, bt280.2.2.2.2))) else (if t277 = 91 then ((spec_reader_elements.f k t278 t279).bind fun bt289 => (some (5, s0_1, bt289.2.2.2, ([] : List (S84)), bt289.1, bt289.2.1, bt289.2.2.1, bt289.2.2.2))) else (if t277 = 34 then ((spec_reader_quoted.f k t278 t279).bind fun bt295 => (some (4, s0_1, bt295.2.2, ([] : List (S84)), ([] : List (S40)), bt295.1, bt295.2.1, bt295.2.2))) else (if t277 = 45 then (spec_reader_value.j0 k true true t278 t279 0 s0_1 0) else (if 48 ≤ t277 then (spec_reader_value.j0 k true (decide (t277 ≤ 57)) t278 t279 0 s0_1 0) else (spec_reader_value.j0 k true false t278 t279 0 s0_1 0)))))) = some (r1, r2, r3, r4, r5, r6, r7, r8) := H
  have A2 := Aside0.mk A20
  clear A20
  by_cases c3 : t277 = 123
  · rw [if_pos c3] at H
    have c3b0 : (t277 == 123) = true := beq_iff_eq.mpr c3
    have c3b1 : (t277 != 123) = false := bne_eq_false_iff_eq.mpr c3
    clear c3
    replace H := Option.bind_eq_some_iff.mp H
    obtain ⟨⟨t280, t283, t286, t287, t288⟩, A40, H⟩ := H
    replace H : (some (6, s0_1, t288, t280, t283, t286, t287, t288)) = some (r1, r2, r3, r4, r5, r6, r7, r8) := H
    have A4 := Aside0.mk A40
    clear A40
    simp only [Option.some.injEq, Prod.mk.injEq] at H
    obtain ⟨rfl, rfl, rfl, rfl, rfl, rfl, rfl, rfl⟩ := H
    go_enter Tryz.func42, Tryz.ntmps42
    go_wp2_with (first | ((with_reducible refine gate_dst (N := 2) rfl ?_); refine box_event ?hg (N := 2) ?hd (cs := #[.int .i64 0, .int .i64 0, .int .i64 0, .slice none 0 0, .slice none 0 0]) (t := 40) ?hr ?_; (case hd => rfl); (case hg => rfl); (case hr => first | (go_simp; done) | (go_simp; rfl)); intro gb275 hg w5 hbox hb; have n0_ := Aside0.mk (IsS79.below tc0 hb); have n1_ := Aside0.mk (KeepBut.trans tc1 (KeepBut.of_below hb g none) (.inl rfl)); have n2_ := Aside0.mk (below_step tc2 hb); have n3_ := Aside0.mk (hbox); have n4_ := Aside0.mk ((by rw [hg]; exact (keep_size (w := w) (g := g) (row := none) tc1) : w.heap.size ≤ gb275)); have n5_ := Aside0.mk ((Nat.le_trans HW0.out (by rw [hg]; exact (keep_size (w := w) (g := g) (row := none) tc1) : w.heap.size ≤ gb275) : w0.heap.size ≤ gb275)); have n6_ := Aside0.mk ((by rw [hg]; exact Nat.ne_of_lt (IsS79.lt (show IsS79 w0 _ g s0_0 s0_1 from tc0)) : g ≠ gb275)); have n7_ := Aside0.mk ((by rw [hg]; exact Nat.ne_of_gt (IsS79.lt (show IsS79 w0 _ g s0_0 s0_1 from tc0)) : gb275 ≠ g)); clear HI0; clear HK; clear HB; have HI0 := n0_; have HK := n1_; have HB := n2_; have BK275 := n3_; have GW275 := n4_; have GE275 := n5_; have NB0_275 := n6_; have NB275_0 := n7_; clear n0_ n1_ n2_ n3_ n4_ n5_ n6_ n7_; clear hb hbox hg; obtain ⟨HGz6, hgz6⟩ := HI0.out; have hcz6_0 := cellS79_0 HGz6; have hcz6_1 := cellS79_1 HGz6; have hfz6_0 := blk_frozen HGz6 0; have hfz6_1 := blk_frozen HGz6 1; clear HGz6 hgz6) | ((with_reducible refine gate_dst (N := 4) rfl ?_); refine box_event ?hg (N := 4) ?hd (cs := #[.int .i64 0, .int .i64 0, .int .i64 0, .slice none 0 0, .slice none 0 0]) (t := 40) ?hr ?_; (case hd => rfl); (case hg => rfl); (case hr => first | (go_simp; done) | (go_simp; rfl)); intro gb276 hg w7 hbox hb; have n0_ := Aside0.mk (IsS79.below tc25 hb); have n1_ := Aside0.mk (blk_below (g := gb275) (o := .cells #[.int .i64 0, .int .i64 0, .int .i64 0, .slice none 0 0, .slice none 0 0] 40 (0, 0)) tc26 hb); have n2_ := Aside0.mk (KeepBut.trans tc27 (KeepBut.of_below hb g none) (.inl rfl)); have n3_ := Aside0.mk (below_step tc51 hb); have n4_ := Aside0.mk (hbox); have n5_ := Aside0.mk ((by rw [hg]; exact (keep_size (w := w) (g := g) (row := none) tc27) : w.heap.size ≤ gb276)); have n6_ := Aside0.mk ((Nat.le_trans HW0.out (by rw [hg]; exact (keep_size (w := w) (g := g) (row := none) tc27) : w.heap.size ≤ gb276) : w0.heap.size ≤ gb276)); have n7_ := Aside0.mk ((by rw [hg]; exact Nat.ne_of_lt (blk_lt (g := gb275) (o := .cells #[.int .i64 0, .int .i64 0, .int .i64 0, .slice none 0 0, .slice none 0 0] 40 (0, 0)) tc26) : gb275 ≠ gb276)); have n8_ := Aside0.mk ((by rw [hg]; exact Nat.ne_of_gt (blk_lt (g := gb275) (o := .cells #[.int .i64 0, .int .i64 0, .int .i64 0, .slice none 0 0, .slice none 0 0] 40 (0, 0)) tc26) : gb276 ≠ gb275)); have n9_ := Aside0.mk ((by rw [hg]; exact Nat.ne_of_lt (IsS79.lt (show IsS79 w0 _ g s0_0 s0_1 from tc25)) : g ≠ gb276)); have n10_ := Aside0.mk ((by rw [hg]; exact Nat.ne_of_gt (IsS79.lt (show IsS79 w0 _ g s0_0 s0_1 from tc25)) : gb276 ≠ g)); clear HI0; clear BK275; clear HK; clear HB; have HI0 := n0_; have BK275 := n1_; have HK := n2_; have HB := n3_; have BK276 := n4_; have GW276 := n5_; have GE276 := n6_; have NB275_276 := n7_; have NB276_275 := n8_; have NB0_276 := n9_; have NB276_0 := n10_; clear n0_ n1_ n2_ n3_ n4_ n5_ n6_ n7_ n8_ n9_ n10_; clear hb hbox hg; have hnb8 := NB276_275.out; have hnc8 := NB275_276.out; have hnb9 := NB276_0.out; have hnc9 := NB0_276.out; have hcz10_0 : w7.cell? ⟨gb276, 0, none⟩ = some (.int .i64 0) := (blk_cell BK276.out 0).trans rfl; have hcz10_1 : w7.cell? ⟨gb276, 1, none⟩ = some (.int .i64 0) := (blk_cell BK276.out 1).trans rfl; have hcz10_2 : w7.cell? ⟨gb276, 2, none⟩ = some (.int .i64 0) := (blk_cell BK276.out 2).trans rfl; have hcz10_3 : w7.cell? ⟨gb276, 3, none⟩ = some (.slice none 0 0) := (blk_cell BK276.out 3).trans rfl; have hcz10_4 : w7.cell? ⟨gb276, 4, none⟩ = some (.slice none 0 0) := (blk_cell BK276.out 4).trans rfl; have hfz10_0 := blk_frozen BK276.out 0; have hfz10_1 := blk_frozen BK276.out 1; have hfz10_2 := blk_frozen BK276.out 2; have hfz10_3 := blk_frozen BK276.out 3; have hfz10_4 := blk_frozen BK276.out 4) | ((with_reducible refine gate_callee (f := 69) rfl ?_); refine goesL_ (some 13) rfl rfl Tryz.func69 (by kernel_rfl) rfl #[.pointer (some ⟨g, 0, none⟩)] rfl tc3 ?_; (with_reducible refine (spec_reader_here.calls g s0_0 s0_1 t277 t278 t279 w0 _ ?side1 ?side2 A2.out).mono ?_); (case side1 => exact tc6); (case side2 => exact tc7); rintro e w11 ⟨rfl, hi, hb, hk⟩; refine ⟨_, rfl, ?_⟩; have n0_ := Aside0.mk (KeepBut.blk hk (g' := gb275) (o := .cells #[.int .i64 0, .int .i64 0, .int .i64 0, .slice none 0 0, .slice none 0 0] 40 (0, 0)) tc22 NB275_0.out (by simp)); have n1_ := Aside0.mk (KeepBut.blk hk (g' := gb276) (o := .cells #[.int .i64 0, .int .i64 s0_1, .int .i64 0, .slice none 0 0, .slice none 0 0] 40 (0, 0)) tc13 NB276_0.out (by simp)); have n2_ := Aside0.mk (KeepBut.trans tc8 hk (.inl rfl)); have n3_ := Aside0.mk (hb); have n4_ := Aside0.mk (hi); clear BK275; clear BK276; clear HK; clear HB; clear HI0; have BK275 := n0_; have BK276 := n1_; have HK := n2_; have HB := n3_; have HI0 := n4_; clear n0_ n1_ n2_ n3_ n4_; (try clear hb); (try clear hb2); (try clear hk); (try clear hi); have hcz12_0 : w11.cell? ⟨gb276, 0, none⟩ = some (.int .i64 0) := (blk_cell BK276.out 0).trans rfl; have hcz12_1 : w11.cell? ⟨gb276, 1, none⟩ = some (.int .i64 s0_1) := (blk_cell BK276.out 1).trans rfl; have hcz12_2 : w11.cell? ⟨gb276, 2, none⟩ = some (.int .i64 0) := (blk_cell BK276.out 2).trans rfl; have hcz12_3 : w11.cell? ⟨gb276, 3, none⟩ = some (.slice none 0 0) := (blk_cell BK276.out 3).trans rfl; have hcz12_4 : w11.cell? ⟨gb276, 4, none⟩ = some (.slice none 0 0) := (blk_cell BK276.out 4).trans rfl; have hfz12_0 := blk_frozen BK276.out 0; have hfz12_1 := blk_frozen BK276.out 1; have hfz12_2 := blk_frozen BK276.out 2; have hfz12_3 := blk_frozen BK276.out 3; have hfz12_4 := blk_frozen BK276.out 4) | ((with_reducible refine gate_callee (f := 70) rfl ?_); refine goesL_ (some 20) rfl rfl Tryz.func70 (by kernel_rfl) rfl #[.pointer (some ⟨g, 0, none⟩)] rfl tc3 ?_; (with_reducible refine (spec_reader_members.calls k g t278 t279 t280 t283 t286 t287 t288 w0 _ ?side1 ?side2 A4.out).mono ?_); (case side1 => exact tc6); (case side2 => exact tc7); rintro e w13 ⟨v281, v284, rfl, ho0, ho1, hi, hb, hk⟩; refine ⟨_, rfl, ?_⟩; have n0_ := Aside0.mk (KeepBut.blk hk (g' := gb275) (o := .cells #[.int .i64 0, .int .i64 0, .int .i64 0, .slice none 0 0, .slice none 0 0] 40 (0, 0)) tc36 NB275_0.out (by simp)); have n1_ := Aside0.mk (KeepBut.blk hk (g' := gb276) (o := .cells #[.int .i64 6, .int .i64 s0_1, .int .i64 0, .slice none 0 0, .slice none 0 0] 40 (0, 0)) tc28 NB276_0.out (by simp)); have n2_ := Aside0.mk (Kd.R_lower ho0 (keep_size (w := w) (g := g) (row := none) tc8)); have n3_ := Aside0.mk (Kd.R_lower (Kd.R_newB (Kd.R_newB ho1 (g := gb275) (o := .cells #[.int .i64 0, .int .i64 0, .int .i64 0, .slice none 0 0, .slice none 0 0] 40 (0, 0)) tc36) (g := gb276) (o := .cells #[.int .i64 6, .int .i64 s0_1, .int .i64 0, .slice none 0 0, .slice none 0 0] 40 (0, 0)) tc28) (keep_size (w := w) (g := g) (row := none) tc8)); have n4_ := Aside0.mk (KeepBut.trans tc8 hk (.inl rfl)); have n5_ := Aside0.mk (hb); have n6_ := Aside0.mk (hi); clear BK275; clear BK276; clear HK; clear HB; clear HI0; have BK275 := n0_; have BK276 := n1_; have HO282 := n2_; have HO285 := n3_; have HK := n4_; have HB := n5_; have HI0 := n6_; clear n0_ n1_ n2_ n3_ n4_ n5_ n6_; (try clear hb); (try clear hb2); (try clear hk); (try clear hi); (try clear ho0); (try clear ho1); obtain ⟨Ao14, co14, eo14⟩ := Kd.R_slice HO282.out; subst eo14; have hcz15_0 : w13.cell? ⟨gb276, 0, none⟩ = some (.int .i64 6) := (blk_cell BK276.out 0).trans rfl; have hcz15_1 : w13.cell? ⟨gb276, 1, none⟩ = some (.int .i64 s0_1) := (blk_cell BK276.out 1).trans rfl; have hcz15_2 : w13.cell? ⟨gb276, 2, none⟩ = some (.int .i64 0) := (blk_cell BK276.out 2).trans rfl; have hcz15_3 : w13.cell? ⟨gb276, 3, none⟩ = some (.slice none 0 0) := (blk_cell BK276.out 3).trans rfl; have hcz15_4 : w13.cell? ⟨gb276, 4, none⟩ = some (.slice none 0 0) := (blk_cell BK276.out 4).trans rfl; have hfz15_0 := blk_frozen BK276.out 0; have hfz15_1 := blk_frozen BK276.out 1; have hfz15_2 := blk_frozen BK276.out 2; have hfz15_3 := blk_frozen BK276.out 3; have hfz15_4 := blk_frozen BK276.out 4; obtain ⟨Ao16, co16, eo16⟩ := Kd.R_slice HO285.out; subst eo16; obtain ⟨HGz17, hgz17⟩ := HI0.out; have hcz17_0 := cellS79_0 HGz17; have hcz17_1 := cellS79_1 HGz17; have hfz17_0 := blk_frozen HGz17 0; have hfz17_1 := blk_frozen HGz17 1; clear HGz17 hgz17; have hnb18 := NB275_0.out; have hnc18 := NB0_275.out; have hcz19_0 : w13.cell? ⟨gb275, 0, none⟩ = some (.int .i64 0) := (blk_cell BK275.out 0).trans rfl; have hcz19_1 : w13.cell? ⟨gb275, 1, none⟩ = some (.int .i64 0) := (blk_cell BK275.out 1).trans rfl; have hcz19_2 : w13.cell? ⟨gb275, 2, none⟩ = some (.int .i64 0) := (blk_cell BK275.out 2).trans rfl; have hcz19_3 : w13.cell? ⟨gb275, 3, none⟩ = some (.slice none 0 0) := (blk_cell BK275.out 3).trans rfl; have hcz19_4 : w13.cell? ⟨gb275, 4, none⟩ = some (.slice none 0 0) := (blk_cell BK275.out 4).trans rfl; have hfz19_0 := blk_frozen BK275.out 0; have hfz19_1 := blk_frozen BK275.out 1; have hfz19_2 := blk_frozen BK275.out 2; have hfz19_3 := blk_frozen BK275.out 3; have hfz19_4 := blk_frozen BK275.out 4))
    refine bodyPost_ret (results_ct rfl _ _ gb275 40 #[.int .i64 6, .int .i64 s0_1, .int .i64 t288, .slice Ao14 t280.length co14, .slice Ao16 t283.length co16] (0, 0) _ rfl (by (with_reducible repeat (first | refine blk_drewN ?_ _ | refine blk_drew ?_ | refine blk_alloc ?_ _)); refine blk_put (cs := #[.int .i64 6, .int .i64 s0_1, .int .i64 t288, .slice Ao14 t280.length co14, .slice none 0 0]) ?_ 4 _ rfl; (with_reducible repeat (first | refine blk_drewN ?_ _ | refine blk_drew ?_ | refine blk_alloc ?_ _)); refine blk_put (cs := #[.int .i64 6, .int .i64 s0_1, .int .i64 t288, .slice none 0 0, .slice none 0 0]) ?_ 3 _ rfl; (with_reducible repeat (first | refine blk_drewN ?_ _ | refine blk_drew ?_ | refine blk_alloc ?_ _)); refine blk_put (cs := #[.int .i64 6, .int .i64 s0_1, .int .i64 0, .slice none 0 0, .slice none 0 0]) ?_ 2 _ rfl; (with_reducible repeat (first | refine blk_drewN ?_ _ | refine blk_drew ?_ | refine blk_alloc ?_ _)); refine blk_put (cs := #[.int .i64 6, .int .i64 0, .int .i64 0, .slice none 0 0, .slice none 0 0]) ?_ 1 _ rfl; (with_reducible repeat (first | refine blk_drewN ?_ _ | refine blk_drew ?_ | refine blk_alloc ?_ _)); refine blk_put (cs := #[.int .i64 0, .int .i64 0, .int .i64 0, .slice none 0 0, .slice none 0 0]) ?_ 0 _ rfl; (with_reducible repeat (first | refine blk_drewN ?_ _ | refine blk_drew ?_ | refine blk_alloc ?_ _)); refine blk_far ?_ NB275_276.out _; (with_reducible repeat (first | refine blk_drewN ?_ _ | refine blk_drew ?_ | refine blk_alloc ?_ _)); refine blk_far ?_ NB275_276.out _; (with_reducible repeat (first | refine blk_drewN ?_ _ | refine blk_drew ?_ | refine blk_alloc ?_ _)); refine blk_far ?_ NB275_276.out _; (with_reducible repeat (first | refine blk_drewN ?_ _ | refine blk_drew ?_ | refine blk_alloc ?_ _)); exact BK275.out) Tryz.underlying40 rfl (by kernel_rfl)) rfl ?_
    exact ⟨_, _, tc12, by (with_reducible repeat (first | apply Kd.R_alloc | apply Kd.R_drewN | apply Kd.R_drew)); exact Kd.R_mono (Kd.R_far (p := ⟨gb275, 4, none⟩) (Kd.R_far (p := ⟨gb275, 3, none⟩) (Kd.R_far (p := ⟨gb275, 2, none⟩) (Kd.R_far (p := ⟨gb275, 1, none⟩) (Kd.R_far (p := ⟨gb275, 0, none⟩) (Kd.R_far (p := ⟨gb276, 2, none⟩) (Kd.R_far (p := ⟨gb276, 4, none⟩) (Kd.R_far (p := ⟨gb276, 3, none⟩) (Kd.R_types (Kd.R_types HO282.out BK276.out (by decide)) BK275.out (by decide)) (fun _ hk => hk.1.2) (.slice Ao14 t280.length co14)) (fun _ hk => hk.1.2) (.slice Ao16 t283.length co16)) (fun _ hk => hk.1.2) (.int .i64 t288)) (fun _ hk => hk.2) (.int .i64 6)) (fun _ hk => hk.2) (.int .i64 s0_1)) (fun _ hk => hk.2) (.int .i64 t288)) (fun _ hk => hk.2) (.slice Ao14 t280.length co14)) (fun _ hk => hk.2) (.slice Ao16 t283.length co16)) (fun _ hk => trivial), by (with_reducible repeat (first | apply Kd.R_alloc | apply Kd.R_drewN | apply Kd.R_drew)); exact Kd.R_mono (Kd.R_far (p := ⟨gb275, 4, none⟩) (Kd.R_far (p := ⟨gb275, 3, none⟩) (Kd.R_far (p := ⟨gb275, 2, none⟩) (Kd.R_far (p := ⟨gb275, 1, none⟩) (Kd.R_far (p := ⟨gb275, 0, none⟩) (Kd.R_far (p := ⟨gb276, 2, none⟩) (Kd.R_far (p := ⟨gb276, 4, none⟩) (Kd.R_far (p := ⟨gb276, 3, none⟩) (Kd.R_mono (Kd.R_mono HO285.out (fun k_ hk => (⟨hk, hk.2⟩ : _ ∧ k_ ≠ gb276))) (fun k_ hk => (⟨hk, hk.1.1.2⟩ : _ ∧ k_ ≠ gb275))) (fun _ hk => hk.1.2) (.slice Ao14 t280.length co14)) (fun _ hk => hk.1.2) (.slice Ao16 t283.length co16)) (fun _ hk => hk.1.2) (.int .i64 t288)) (fun _ hk => hk.2) (.int .i64 6)) (fun _ hk => hk.2) (.int .i64 s0_1)) (fun _ hk => hk.2) (.int .i64 t288)) (fun _ hk => hk.2) (.slice Ao14 t280.length co14)) (fun _ hk => hk.2) (.slice Ao16 t283.length co16)) (fun _ hk => hk.1.1.1.1), tc6, tc7, tc8⟩
  · rw [if_neg c3] at H
    have c3b0 : (t277 == 123) = false := beq_eq_false_iff_ne.mpr c3
    have c3b1 : (t277 != 123) = true := bne_iff_ne.mpr c3
    by_cases c20 : t277 = 91
    · rw [if_pos c20] at H
      have c20b0 : (t277 == 91) = true := beq_iff_eq.mpr c20
      have c20b1 : (t277 != 91) = false := bne_eq_false_iff_eq.mpr c20
      clear c20
      replace H := Option.bind_eq_some_iff.mp H
      obtain ⟨⟨t289, t292, t293, t294⟩, A210, H⟩ := H
      replace H : (some (5, s0_1, t294, ([] : List (S84)), t289, t292, t293, t294)) = some (r1, r2, r3, r4, r5, r6, r7, r8) := H
      have A21 := Aside0.mk A210
      clear A210
      simp only [Option.some.injEq, Prod.mk.injEq] at H
      obtain ⟨rfl, rfl, rfl, rfl, rfl, rfl, rfl, rfl⟩ := H
      go_enter Tryz.func42, Tryz.ntmps42
      go_wp2_with (first | ((with_reducible refine gate_dst (N := 2) rfl ?_); refine box_event ?hg (N := 2) ?hd (cs := #[.int .i64 0, .int .i64 0, .int .i64 0, .slice none 0 0, .slice none 0 0]) (t := 40) ?hr ?_; (case hd => rfl); (case hg => rfl); (case hr => first | (go_simp; done) | (go_simp; rfl)); intro gb275 hg w22 hbox hb; have n0_ := Aside0.mk (IsS79.below tc0 hb); have n1_ := Aside0.mk (KeepBut.trans tc1 (KeepBut.of_below hb g none) (.inl rfl)); have n2_ := Aside0.mk (below_step tc2 hb); have n3_ := Aside0.mk (hbox); have n4_ := Aside0.mk ((by rw [hg]; exact (keep_size (w := w) (g := g) (row := none) tc1) : w.heap.size ≤ gb275)); have n5_ := Aside0.mk ((Nat.le_trans HW0.out (by rw [hg]; exact (keep_size (w := w) (g := g) (row := none) tc1) : w.heap.size ≤ gb275) : w0.heap.size ≤ gb275)); have n6_ := Aside0.mk ((by rw [hg]; exact Nat.ne_of_lt (IsS79.lt (show IsS79 w0 _ g s0_0 s0_1 from tc0)) : g ≠ gb275)); have n7_ := Aside0.mk ((by rw [hg]; exact Nat.ne_of_gt (IsS79.lt (show IsS79 w0 _ g s0_0 s0_1 from tc0)) : gb275 ≠ g)); clear HI0; clear HK; clear HB; have HI0 := n0_; have HK := n1_; have HB := n2_; have BK275 := n3_; have GW275 := n4_; have GE275 := n5_; have NB0_275 := n6_; have NB275_0 := n7_; clear n0_ n1_ n2_ n3_ n4_ n5_ n6_ n7_; clear hb hbox hg; obtain ⟨HGz23, hgz23⟩ := HI0.out; have hcz23_0 := cellS79_0 HGz23; have hcz23_1 := cellS79_1 HGz23; have hfz23_0 := blk_frozen HGz23 0; have hfz23_1 := blk_frozen HGz23 1; clear HGz23 hgz23) | ((with_reducible refine gate_dst (N := 4) rfl ?_); refine box_event ?hg (N := 4) ?hd (cs := #[.int .i64 0, .int .i64 0, .int .i64 0, .slice none 0 0, .slice none 0 0]) (t := 40) ?hr ?_; (case hd => rfl); (case hg => rfl); (case hr => first | (go_simp; done) | (go_simp; rfl)); intro gb276 hg w24 hbox hb; have n0_ := Aside0.mk (IsS79.below tc25 hb); have n1_ := Aside0.mk (blk_below (g := gb275) (o := .cells #[.int .i64 0, .int .i64 0, .int .i64 0, .slice none 0 0, .slice none 0 0] 40 (0, 0)) tc26 hb); have n2_ := Aside0.mk (KeepBut.trans tc27 (KeepBut.of_below hb g none) (.inl rfl)); have n3_ := Aside0.mk (below_step tc51 hb); have n4_ := Aside0.mk (hbox); have n5_ := Aside0.mk ((by rw [hg]; exact (keep_size (w := w) (g := g) (row := none) tc27) : w.heap.size ≤ gb276)); have n6_ := Aside0.mk ((Nat.le_trans HW0.out (by rw [hg]; exact (keep_size (w := w) (g := g) (row := none) tc27) : w.heap.size ≤ gb276) : w0.heap.size ≤ gb276)); have n7_ := Aside0.mk ((by rw [hg]; exact Nat.ne_of_lt (blk_lt (g := gb275) (o := .cells #[.int .i64 0, .int .i64 0, .int .i64 0, .slice none 0 0, .slice none 0 0] 40 (0, 0)) tc26) : gb275 ≠ gb276)); have n8_ := Aside0.mk ((by rw [hg]; exact Nat.ne_of_gt (blk_lt (g := gb275) (o := .cells #[.int .i64 0, .int .i64 0, .int .i64 0, .slice none 0 0, .slice none 0 0] 40 (0, 0)) tc26) : gb276 ≠ gb275)); have n9_ := Aside0.mk ((by rw [hg]; exact Nat.ne_of_lt (IsS79.lt (show IsS79 w0 _ g s0_0 s0_1 from tc25)) : g ≠ gb276)); have n10_ := Aside0.mk ((by rw [hg]; exact Nat.ne_of_gt (IsS79.lt (show IsS79 w0 _ g s0_0 s0_1 from tc25)) : gb276 ≠ g)); clear HI0; clear BK275; clear HK; clear HB; have HI0 := n0_; have BK275 := n1_; have HK := n2_; have HB := n3_; have BK276 := n4_; have GW276 := n5_; have GE276 := n6_; have NB275_276 := n7_; have NB276_275 := n8_; have NB0_276 := n9_; have NB276_0 := n10_; clear n0_ n1_ n2_ n3_ n4_ n5_ n6_ n7_ n8_ n9_ n10_; clear hb hbox hg; have hnb25 := NB276_275.out; have hnc25 := NB275_276.out; have hnb26 := NB276_0.out; have hnc26 := NB0_276.out; have hcz27_0 : w24.cell? ⟨gb276, 0, none⟩ = some (.int .i64 0) := (blk_cell BK276.out 0).trans rfl; have hcz27_1 : w24.cell? ⟨gb276, 1, none⟩ = some (.int .i64 0) := (blk_cell BK276.out 1).trans rfl; have hcz27_2 : w24.cell? ⟨gb276, 2, none⟩ = some (.int .i64 0) := (blk_cell BK276.out 2).trans rfl; have hcz27_3 : w24.cell? ⟨gb276, 3, none⟩ = some (.slice none 0 0) := (blk_cell BK276.out 3).trans rfl; have hcz27_4 : w24.cell? ⟨gb276, 4, none⟩ = some (.slice none 0 0) := (blk_cell BK276.out 4).trans rfl; have hfz27_0 := blk_frozen BK276.out 0; have hfz27_1 := blk_frozen BK276.out 1; have hfz27_2 := blk_frozen BK276.out 2; have hfz27_3 := blk_frozen BK276.out 3; have hfz27_4 := blk_frozen BK276.out 4) | ((with_reducible refine gate_callee (f := 69) rfl ?_); refine goesL_ (some 13) rfl rfl Tryz.func69 (by kernel_rfl) rfl #[.pointer (some ⟨g, 0, none⟩)] rfl tc3 ?_; (with_reducible refine (spec_reader_here.calls g s0_0 s0_1 t277 t278 t279 w0 _ ?side1 ?side2 A2.out).mono ?_); (case side1 => exact tc6); (case side2 => exact tc7); rintro e w28 ⟨rfl, hi, hb, hk⟩; refine ⟨_, rfl, ?_⟩; have n0_ := Aside0.mk (KeepBut.blk hk (g' := gb275) (o := .cells #[.int .i64 0, .int .i64 0, .int .i64 0, .slice none 0 0, .slice none 0 0] 40 (0, 0)) tc22 NB275_0.out (by simp)); have n1_ := Aside0.mk (KeepBut.blk hk (g' := gb276) (o := .cells #[.int .i64 0, .int .i64 s0_1, .int .i64 0, .slice none 0 0, .slice none 0 0] 40 (0, 0)) tc13 NB276_0.out (by simp)); have n2_ := Aside0.mk (KeepBut.trans tc8 hk (.inl rfl)); have n3_ := Aside0.mk (hb); have n4_ := Aside0.mk (hi); clear BK275; clear BK276; clear HK; clear HB; clear HI0; have BK275 := n0_; have BK276 := n1_; have HK := n2_; have HB := n3_; have HI0 := n4_; clear n0_ n1_ n2_ n3_ n4_; (try clear hb); (try clear hb2); (try clear hk); (try clear hi); have hcz29_0 : w28.cell? ⟨gb276, 0, none⟩ = some (.int .i64 0) := (blk_cell BK276.out 0).trans rfl; have hcz29_1 : w28.cell? ⟨gb276, 1, none⟩ = some (.int .i64 s0_1) := (blk_cell BK276.out 1).trans rfl; have hcz29_2 : w28.cell? ⟨gb276, 2, none⟩ = some (.int .i64 0) := (blk_cell BK276.out 2).trans rfl; have hcz29_3 : w28.cell? ⟨gb276, 3, none⟩ = some (.slice none 0 0) := (blk_cell BK276.out 3).trans rfl; have hcz29_4 : w28.cell? ⟨gb276, 4, none⟩ = some (.slice none 0 0) := (blk_cell BK276.out 4).trans rfl; have hfz29_0 := blk_frozen BK276.out 0; have hfz29_1 := blk_frozen BK276.out 1; have hfz29_2 := blk_frozen BK276.out 2; have hfz29_3 := blk_frozen BK276.out 3; have hfz29_4 := blk_frozen BK276.out 4) | ((with_reducible refine gate_callee (f := 71) rfl ?_); refine goesL_ (some 32) rfl rfl Tryz.func71 (by kernel_rfl) rfl #[.pointer (some ⟨g, 0, none⟩)] rfl tc3 ?_; (with_reducible refine (spec_reader_elements.calls k g t278 t279 t289 t292 t293 t294 w0 _ ?side1 ?side2 A21.out).mono ?_); (case side1 => exact tc6); (case side2 => exact tc7); rintro e w30 ⟨v290, rfl, ho0, hi, hb, hk⟩; refine ⟨_, rfl, ?_⟩; have n0_ := Aside0.mk (KeepBut.blk hk (g' := gb275) (o := .cells #[.int .i64 0, .int .i64 0, .int .i64 0, .slice none 0 0, .slice none 0 0] 40 (0, 0)) tc36 NB275_0.out (by simp)); have n1_ := Aside0.mk (KeepBut.blk hk (g' := gb276) (o := .cells #[.int .i64 5, .int .i64 s0_1, .int .i64 0, .slice none 0 0, .slice none 0 0] 40 (0, 0)) tc28 NB276_0.out (by simp)); have n2_ := Aside0.mk (Kd.R_lower (Kd.R_newB (Kd.R_newB ho0 (g := gb275) (o := .cells #[.int .i64 0, .int .i64 0, .int .i64 0, .slice none 0 0, .slice none 0 0] 40 (0, 0)) tc36) (g := gb276) (o := .cells #[.int .i64 5, .int .i64 s0_1, .int .i64 0, .slice none 0 0, .slice none 0 0] 40 (0, 0)) tc28) (keep_size (w := w) (g := g) (row := none) tc8)); have n3_ := Aside0.mk (KeepBut.trans tc8 hk (.inl rfl)); have n4_ := Aside0.mk (hb); have n5_ := Aside0.mk (hi); clear BK275; clear BK276; clear HK; clear HB; clear HI0; have BK275 := n0_; have BK276 := n1_; have HO291 := n2_; have HK := n3_; have HB := n4_; have HI0 := n5_; clear n0_ n1_ n2_ n3_ n4_ n5_; (try clear hb); (try clear hb2); (try clear hk); (try clear hi); (try clear ho0); obtain ⟨Ao31, co31, eo31⟩ := Kd.R_slice HO291.out; subst eo31; have hcz32_0 : w30.cell? ⟨gb276, 0, none⟩ = some (.int .i64 5) := (blk_cell BK276.out 0).trans rfl; have hcz32_1 : w30.cell? ⟨gb276, 1, none⟩ = some (.int .i64 s0_1) := (blk_cell BK276.out 1).trans rfl; have hcz32_2 : w30.cell? ⟨gb276, 2, none⟩ = some (.int .i64 0) := (blk_cell BK276.out 2).trans rfl; have hcz32_3 : w30.cell? ⟨gb276, 3, none⟩ = some (.slice none 0 0) := (blk_cell BK276.out 3).trans rfl; have hcz32_4 : w30.cell? ⟨gb276, 4, none⟩ = some (.slice none 0 0) := (blk_cell BK276.out 4).trans rfl; have hfz32_0 := blk_frozen BK276.out 0; have hfz32_1 := blk_frozen BK276.out 1; have hfz32_2 := blk_frozen BK276.out 2; have hfz32_3 := blk_frozen BK276.out 3; have hfz32_4 := blk_frozen BK276.out 4; obtain ⟨HGz33, hgz33⟩ := HI0.out; have hcz33_0 := cellS79_0 HGz33; have hcz33_1 := cellS79_1 HGz33; have hfz33_0 := blk_frozen HGz33 0; have hfz33_1 := blk_frozen HGz33 1; clear HGz33 hgz33; have hnb34 := NB275_0.out; have hnc34 := NB0_275.out; have hcz35_0 : w30.cell? ⟨gb275, 0, none⟩ = some (.int .i64 0) := (blk_cell BK275.out 0).trans rfl; have hcz35_1 : w30.cell? ⟨gb275, 1, none⟩ = some (.int .i64 0) := (blk_cell BK275.out 1).trans rfl; have hcz35_2 : w30.cell? ⟨gb275, 2, none⟩ = some (.int .i64 0) := (blk_cell BK275.out 2).trans rfl; have hcz35_3 : w30.cell? ⟨gb275, 3, none⟩ = some (.slice none 0 0) := (blk_cell BK275.out 3).trans rfl; have hcz35_4 : w30.cell? ⟨gb275, 4, none⟩ = some (.slice none 0 0) := (blk_cell BK275.out 4).trans rfl; have hfz35_0 := blk_frozen BK275.out 0; have hfz35_1 := blk_frozen BK275.out 1; have hfz35_2 := blk_frozen BK275.out 2; have hfz35_3 := blk_frozen BK275.out 3; have hfz35_4 := blk_frozen BK275.out 4))
      refine bodyPost_ret (results_ct rfl _ _ gb275 40 #[.int .i64 5, .int .i64 s0_1, .int .i64 t294, .slice none 0 0, .slice Ao31 t289.length co31] (0, 0) _ rfl (by (with_reducible repeat (first | refine blk_drewN ?_ _ | refine blk_drew ?_ | refine blk_alloc ?_ _)); refine blk_put (cs := #[.int .i64 5, .int .i64 s0_1, .int .i64 t294, .slice none 0 0, .slice none 0 0]) ?_ 4 _ rfl; (with_reducible repeat (first | refine blk_drewN ?_ _ | refine blk_drew ?_ | refine blk_alloc ?_ _)); refine blk_put (cs := #[.int .i64 5, .int .i64 s0_1, .int .i64 t294, .slice none 0 0, .slice none 0 0]) ?_ 3 _ rfl; (with_reducible repeat (first | refine blk_drewN ?_ _ | refine blk_drew ?_ | refine blk_alloc ?_ _)); refine blk_put (cs := #[.int .i64 5, .int .i64 s0_1, .int .i64 0, .slice none 0 0, .slice none 0 0]) ?_ 2 _ rfl; (with_reducible repeat (first | refine blk_drewN ?_ _ | refine blk_drew ?_ | refine blk_alloc ?_ _)); refine blk_put (cs := #[.int .i64 5, .int .i64 0, .int .i64 0, .slice none 0 0, .slice none 0 0]) ?_ 1 _ rfl; (with_reducible repeat (first | refine blk_drewN ?_ _ | refine blk_drew ?_ | refine blk_alloc ?_ _)); refine blk_put (cs := #[.int .i64 0, .int .i64 0, .int .i64 0, .slice none 0 0, .slice none 0 0]) ?_ 0 _ rfl; (with_reducible repeat (first | refine blk_drewN ?_ _ | refine blk_drew ?_ | refine blk_alloc ?_ _)); refine blk_far ?_ NB275_276.out _; (with_reducible repeat (first | refine blk_drewN ?_ _ | refine blk_drew ?_ | refine blk_alloc ?_ _)); refine blk_far ?_ NB275_276.out _; (with_reducible repeat (first | refine blk_drewN ?_ _ | refine blk_drew ?_ | refine blk_alloc ?_ _)); exact BK275.out) Tryz.underlying40 rfl (by kernel_rfl)) rfl ?_
      exact ⟨_, _, tc12, tc10, by (with_reducible repeat (first | apply Kd.R_alloc | apply Kd.R_drewN | apply Kd.R_drew)); exact Kd.R_mono (Kd.R_far (p := ⟨gb275, 4, none⟩) (Kd.R_far (p := ⟨gb275, 3, none⟩) (Kd.R_far (p := ⟨gb275, 2, none⟩) (Kd.R_far (p := ⟨gb275, 1, none⟩) (Kd.R_far (p := ⟨gb275, 0, none⟩) (Kd.R_far (p := ⟨gb276, 2, none⟩) (Kd.R_far (p := ⟨gb276, 4, none⟩) (Kd.R_mono (Kd.R_mono HO291.out (fun k_ hk => (⟨hk, hk.2⟩ : _ ∧ k_ ≠ gb276))) (fun k_ hk => (⟨hk, hk.1.1.2⟩ : _ ∧ k_ ≠ gb275))) (fun _ hk => hk.1.2) (.slice Ao31 t289.length co31)) (fun _ hk => hk.1.2) (.int .i64 t294)) (fun _ hk => hk.2) (.int .i64 5)) (fun _ hk => hk.2) (.int .i64 s0_1)) (fun _ hk => hk.2) (.int .i64 t294)) (fun _ hk => hk.2) (.slice none 0 0)) (fun _ hk => hk.2) (.slice Ao31 t289.length co31)) (fun _ hk => (by simp [Value.ownBlock])), tc6, tc7, tc8⟩
    · rw [if_neg c20] at H
      have c20b0 : (t277 == 91) = false := beq_eq_false_iff_ne.mpr c20
      have c20b1 : (t277 != 91) = true := bne_iff_ne.mpr c20
      by_cases c36 : t277 = 34
      · rw [if_pos c36] at H
        have c36b0 : (t277 == 34) = true := beq_iff_eq.mpr c36
        have c36b1 : (t277 != 34) = false := bne_eq_false_iff_eq.mpr c36
        clear c36
        replace H := Option.bind_eq_some_iff.mp H
        obtain ⟨⟨t295, t296, t297⟩, A370, H⟩ := H
        replace H : (some (4, s0_1, t297, ([] : List (S84)), ([] : List (S40)), t295, t296, t297)) = some (r1, r2, r3, r4, r5, r6, r7, r8) := H
        have A37 := Aside0.mk A370
        clear A370
        simp only [Option.some.injEq, Prod.mk.injEq] at H
        obtain ⟨rfl, rfl, rfl, rfl, rfl, rfl, rfl, rfl⟩ := H
        go_enter Tryz.func42, Tryz.ntmps42
        go_wp2_with (first | ((with_reducible refine gate_dst (N := 2) rfl ?_); refine box_event ?hg (N := 2) ?hd (cs := #[.int .i64 0, .int .i64 0, .int .i64 0, .slice none 0 0, .slice none 0 0]) (t := 40) ?hr ?_; (case hd => rfl); (case hg => rfl); (case hr => first | (go_simp; done) | (go_simp; rfl)); intro gb275 hg w38 hbox hb; have n0_ := Aside0.mk (IsS79.below tc0 hb); have n1_ := Aside0.mk (KeepBut.trans tc1 (KeepBut.of_below hb g none) (.inl rfl)); have n2_ := Aside0.mk (below_step tc2 hb); have n3_ := Aside0.mk (hbox); have n4_ := Aside0.mk ((by rw [hg]; exact (keep_size (w := w) (g := g) (row := none) tc1) : w.heap.size ≤ gb275)); have n5_ := Aside0.mk ((Nat.le_trans HW0.out (by rw [hg]; exact (keep_size (w := w) (g := g) (row := none) tc1) : w.heap.size ≤ gb275) : w0.heap.size ≤ gb275)); have n6_ := Aside0.mk ((by rw [hg]; exact Nat.ne_of_lt (IsS79.lt (show IsS79 w0 _ g s0_0 s0_1 from tc0)) : g ≠ gb275)); have n7_ := Aside0.mk ((by rw [hg]; exact Nat.ne_of_gt (IsS79.lt (show IsS79 w0 _ g s0_0 s0_1 from tc0)) : gb275 ≠ g)); clear HI0; clear HK; clear HB; have HI0 := n0_; have HK := n1_; have HB := n2_; have BK275 := n3_; have GW275 := n4_; have GE275 := n5_; have NB0_275 := n6_; have NB275_0 := n7_; clear n0_ n1_ n2_ n3_ n4_ n5_ n6_ n7_; clear hb hbox hg; obtain ⟨HGz39, hgz39⟩ := HI0.out; have hcz39_0 := cellS79_0 HGz39; have hcz39_1 := cellS79_1 HGz39; have hfz39_0 := blk_frozen HGz39 0; have hfz39_1 := blk_frozen HGz39 1; clear HGz39 hgz39) | ((with_reducible refine gate_dst (N := 4) rfl ?_); refine box_event ?hg (N := 4) ?hd (cs := #[.int .i64 0, .int .i64 0, .int .i64 0, .slice none 0 0, .slice none 0 0]) (t := 40) ?hr ?_; (case hd => rfl); (case hg => rfl); (case hr => first | (go_simp; done) | (go_simp; rfl)); intro gb276 hg w40 hbox hb; have n0_ := Aside0.mk (IsS79.below tc25 hb); have n1_ := Aside0.mk (blk_below (g := gb275) (o := .cells #[.int .i64 0, .int .i64 0, .int .i64 0, .slice none 0 0, .slice none 0 0] 40 (0, 0)) tc26 hb); have n2_ := Aside0.mk (KeepBut.trans tc27 (KeepBut.of_below hb g none) (.inl rfl)); have n3_ := Aside0.mk (below_step tc51 hb); have n4_ := Aside0.mk (hbox); have n5_ := Aside0.mk ((by rw [hg]; exact (keep_size (w := w) (g := g) (row := none) tc27) : w.heap.size ≤ gb276)); have n6_ := Aside0.mk ((Nat.le_trans HW0.out (by rw [hg]; exact (keep_size (w := w) (g := g) (row := none) tc27) : w.heap.size ≤ gb276) : w0.heap.size ≤ gb276)); have n7_ := Aside0.mk ((by rw [hg]; exact Nat.ne_of_lt (blk_lt (g := gb275) (o := .cells #[.int .i64 0, .int .i64 0, .int .i64 0, .slice none 0 0, .slice none 0 0] 40 (0, 0)) tc26) : gb275 ≠ gb276)); have n8_ := Aside0.mk ((by rw [hg]; exact Nat.ne_of_gt (blk_lt (g := gb275) (o := .cells #[.int .i64 0, .int .i64 0, .int .i64 0, .slice none 0 0, .slice none 0 0] 40 (0, 0)) tc26) : gb276 ≠ gb275)); have n9_ := Aside0.mk ((by rw [hg]; exact Nat.ne_of_lt (IsS79.lt (show IsS79 w0 _ g s0_0 s0_1 from tc25)) : g ≠ gb276)); have n10_ := Aside0.mk ((by rw [hg]; exact Nat.ne_of_gt (IsS79.lt (show IsS79 w0 _ g s0_0 s0_1 from tc25)) : gb276 ≠ g)); clear HI0; clear BK275; clear HK; clear HB; have HI0 := n0_; have BK275 := n1_; have HK := n2_; have HB := n3_; have BK276 := n4_; have GW276 := n5_; have GE276 := n6_; have NB275_276 := n7_; have NB276_275 := n8_; have NB0_276 := n9_; have NB276_0 := n10_; clear n0_ n1_ n2_ n3_ n4_ n5_ n6_ n7_ n8_ n9_ n10_; clear hb hbox hg; have hnb41 := NB276_275.out; have hnc41 := NB275_276.out; have hnb42 := NB276_0.out; have hnc42 := NB0_276.out; have hcz43_0 : w40.cell? ⟨gb276, 0, none⟩ = some (.int .i64 0) := (blk_cell BK276.out 0).trans rfl; have hcz43_1 : w40.cell? ⟨gb276, 1, none⟩ = some (.int .i64 0) := (blk_cell BK276.out 1).trans rfl; have hcz43_2 : w40.cell? ⟨gb276, 2, none⟩ = some (.int .i64 0) := (blk_cell BK276.out 2).trans rfl; have hcz43_3 : w40.cell? ⟨gb276, 3, none⟩ = some (.slice none 0 0) := (blk_cell BK276.out 3).trans rfl; have hcz43_4 : w40.cell? ⟨gb276, 4, none⟩ = some (.slice none 0 0) := (blk_cell BK276.out 4).trans rfl; have hfz43_0 := blk_frozen BK276.out 0; have hfz43_1 := blk_frozen BK276.out 1; have hfz43_2 := blk_frozen BK276.out 2; have hfz43_3 := blk_frozen BK276.out 3; have hfz43_4 := blk_frozen BK276.out 4) | ((with_reducible refine gate_callee (f := 69) rfl ?_); refine goesL_ (some 13) rfl rfl Tryz.func69 (by kernel_rfl) rfl #[.pointer (some ⟨g, 0, none⟩)] rfl tc3 ?_; (with_reducible refine (spec_reader_here.calls g s0_0 s0_1 t277 t278 t279 w0 _ ?side1 ?side2 A2.out).mono ?_); (case side1 => exact tc6); (case side2 => exact tc7); rintro e w44 ⟨rfl, hi, hb, hk⟩; refine ⟨_, rfl, ?_⟩; have n0_ := Aside0.mk (KeepBut.blk hk (g' := gb275) (o := .cells #[.int .i64 0, .int .i64 0, .int .i64 0, .slice none 0 0, .slice none 0 0] 40 (0, 0)) tc22 NB275_0.out (by simp)); have n1_ := Aside0.mk (KeepBut.blk hk (g' := gb276) (o := .cells #[.int .i64 0, .int .i64 s0_1, .int .i64 0, .slice none 0 0, .slice none 0 0] 40 (0, 0)) tc13 NB276_0.out (by simp)); have n2_ := Aside0.mk (KeepBut.trans tc8 hk (.inl rfl)); have n3_ := Aside0.mk (hb); have n4_ := Aside0.mk (hi); clear BK275; clear BK276; clear HK; clear HB; clear HI0; have BK275 := n0_; have BK276 := n1_; have HK := n2_; have HB := n3_; have HI0 := n4_; clear n0_ n1_ n2_ n3_ n4_; (try clear hb); (try clear hb2); (try clear hk); (try clear hi); have hcz45_0 : w44.cell? ⟨gb276, 0, none⟩ = some (.int .i64 0) := (blk_cell BK276.out 0).trans rfl; have hcz45_1 : w44.cell? ⟨gb276, 1, none⟩ = some (.int .i64 s0_1) := (blk_cell BK276.out 1).trans rfl; have hcz45_2 : w44.cell? ⟨gb276, 2, none⟩ = some (.int .i64 0) := (blk_cell BK276.out 2).trans rfl; have hcz45_3 : w44.cell? ⟨gb276, 3, none⟩ = some (.slice none 0 0) := (blk_cell BK276.out 3).trans rfl; have hcz45_4 : w44.cell? ⟨gb276, 4, none⟩ = some (.slice none 0 0) := (blk_cell BK276.out 4).trans rfl; have hfz45_0 := blk_frozen BK276.out 0; have hfz45_1 := blk_frozen BK276.out 1; have hfz45_2 := blk_frozen BK276.out 2; have hfz45_3 := blk_frozen BK276.out 3; have hfz45_4 := blk_frozen BK276.out 4) | ((with_reducible refine gate_callee (f := 72) rfl ?_); refine goesL_ (some 41) rfl rfl Tryz.func72 (by kernel_rfl) rfl #[.pointer (some ⟨g, 0, none⟩)] rfl tc3 ?_; (with_reducible refine (spec_reader_quoted.calls k g t278 t279 t295 t296 t297 w0 _ ?side1 ?side2 A37.out).mono ?_); (case side1 => exact tc6); (case side2 => exact tc7); rintro e w46 ⟨rfl, hi, hb, hk⟩; refine ⟨_, rfl, ?_⟩; have n0_ := Aside0.mk (KeepBut.blk hk (g' := gb275) (o := .cells #[.int .i64 0, .int .i64 0, .int .i64 0, .slice none 0 0, .slice none 0 0] 40 (0, 0)) tc36 NB275_0.out (by simp)); have n1_ := Aside0.mk (KeepBut.blk hk (g' := gb276) (o := .cells #[.int .i64 4, .int .i64 s0_1, .int .i64 0, .slice none 0 0, .slice none 0 0] 40 (0, 0)) tc28 NB276_0.out (by simp)); have n2_ := Aside0.mk (KeepBut.trans tc8 hk (.inl rfl)); have n3_ := Aside0.mk (hb); have n4_ := Aside0.mk (hi); clear BK275; clear BK276; clear HK; clear HB; clear HI0; have BK275 := n0_; have BK276 := n1_; have HK := n2_; have HB := n3_; have HI0 := n4_; clear n0_ n1_ n2_ n3_ n4_; (try clear hb); (try clear hb2); (try clear hk); (try clear hi); obtain ⟨HGz47, hgz47⟩ := HI0.out; have hcz47_0 := cellS79_0 HGz47; have hcz47_1 := cellS79_1 HGz47; have hfz47_0 := blk_frozen HGz47 0; have hfz47_1 := blk_frozen HGz47 1; clear HGz47 hgz47; have hcz48_0 : w46.cell? ⟨gb276, 0, none⟩ = some (.int .i64 4) := (blk_cell BK276.out 0).trans rfl; have hcz48_1 : w46.cell? ⟨gb276, 1, none⟩ = some (.int .i64 s0_1) := (blk_cell BK276.out 1).trans rfl; have hcz48_2 : w46.cell? ⟨gb276, 2, none⟩ = some (.int .i64 0) := (blk_cell BK276.out 2).trans rfl; have hcz48_3 : w46.cell? ⟨gb276, 3, none⟩ = some (.slice none 0 0) := (blk_cell BK276.out 3).trans rfl; have hcz48_4 : w46.cell? ⟨gb276, 4, none⟩ = some (.slice none 0 0) := (blk_cell BK276.out 4).trans rfl; have hfz48_0 := blk_frozen BK276.out 0; have hfz48_1 := blk_frozen BK276.out 1; have hfz48_2 := blk_frozen BK276.out 2; have hfz48_3 := blk_frozen BK276.out 3; have hfz48_4 := blk_frozen BK276.out 4; have hnb49 := NB275_0.out; have hnc49 := NB0_275.out; have hcz50_0 : w46.cell? ⟨gb275, 0, none⟩ = some (.int .i64 0) := (blk_cell BK275.out 0).trans rfl; have hcz50_1 : w46.cell? ⟨gb275, 1, none⟩ = some (.int .i64 0) := (blk_cell BK275.out 1).trans rfl; have hcz50_2 : w46.cell? ⟨gb275, 2, none⟩ = some (.int .i64 0) := (blk_cell BK275.out 2).trans rfl; have hcz50_3 : w46.cell? ⟨gb275, 3, none⟩ = some (.slice none 0 0) := (blk_cell BK275.out 3).trans rfl; have hcz50_4 : w46.cell? ⟨gb275, 4, none⟩ = some (.slice none 0 0) := (blk_cell BK275.out 4).trans rfl; have hfz50_0 := blk_frozen BK275.out 0; have hfz50_1 := blk_frozen BK275.out 1; have hfz50_2 := blk_frozen BK275.out 2; have hfz50_3 := blk_frozen BK275.out 3; have hfz50_4 := blk_frozen BK275.out 4))
        refine bodyPost_ret (results_ct rfl _ _ gb275 40 #[.int .i64 4, .int .i64 s0_1, .int .i64 t297, .slice none 0 0, .slice none 0 0] (0, 0) _ rfl (by (with_reducible repeat (first | refine blk_drewN ?_ _ | refine blk_drew ?_ | refine blk_alloc ?_ _)); refine blk_put (cs := #[.int .i64 4, .int .i64 s0_1, .int .i64 t297, .slice none 0 0, .slice none 0 0]) ?_ 4 _ rfl; (with_reducible repeat (first | refine blk_drewN ?_ _ | refine blk_drew ?_ | refine blk_alloc ?_ _)); refine blk_put (cs := #[.int .i64 4, .int .i64 s0_1, .int .i64 t297, .slice none 0 0, .slice none 0 0]) ?_ 3 _ rfl; (with_reducible repeat (first | refine blk_drewN ?_ _ | refine blk_drew ?_ | refine blk_alloc ?_ _)); refine blk_put (cs := #[.int .i64 4, .int .i64 s0_1, .int .i64 0, .slice none 0 0, .slice none 0 0]) ?_ 2 _ rfl; (with_reducible repeat (first | refine blk_drewN ?_ _ | refine blk_drew ?_ | refine blk_alloc ?_ _)); refine blk_put (cs := #[.int .i64 4, .int .i64 0, .int .i64 0, .slice none 0 0, .slice none 0 0]) ?_ 1 _ rfl; (with_reducible repeat (first | refine blk_drewN ?_ _ | refine blk_drew ?_ | refine blk_alloc ?_ _)); refine blk_put (cs := #[.int .i64 0, .int .i64 0, .int .i64 0, .slice none 0 0, .slice none 0 0]) ?_ 0 _ rfl; (with_reducible repeat (first | refine blk_drewN ?_ _ | refine blk_drew ?_ | refine blk_alloc ?_ _)); refine blk_far ?_ NB275_276.out _; (with_reducible repeat (first | refine blk_drewN ?_ _ | refine blk_drew ?_ | refine blk_alloc ?_ _)); exact BK275.out) Tryz.underlying40 rfl (by kernel_rfl)) rfl ?_
        exact ⟨_, _, tc12, tc10, tc10, tc6, tc7, tc8⟩
      · rw [if_neg c36] at H
        have c36b0 : (t277 == 34) = false := beq_eq_false_iff_ne.mpr c36
        have c36b1 : (t277 != 34) = true := bne_iff_ne.mpr c36
        have HC51 := Aside0.mk H
        clear H
        go_enter Tryz.func42, Tryz.ntmps42
        go_upto_region 14 with (first | ((with_reducible refine gate_dst (N := 2) rfl ?_); refine box_event ?hg (N := 2) ?hd (cs := #[.int .i64 0, .int .i64 0, .int .i64 0, .slice none 0 0, .slice none 0 0]) (t := 40) ?hr ?_; (case hd => rfl); (case hg => rfl); (case hr => first | (go_simp; done) | (go_simp; rfl)); intro gb275 hg w52 hbox hb; have n0_ := Aside0.mk (IsS79.below tc0 hb); have n1_ := Aside0.mk (KeepBut.trans tc1 (KeepBut.of_below hb g none) (.inl rfl)); have n2_ := Aside0.mk (below_step tc2 hb); have n3_ := Aside0.mk (hbox); have n4_ := Aside0.mk ((by rw [hg]; exact (keep_size (w := w) (g := g) (row := none) tc1) : w.heap.size ≤ gb275)); have n5_ := Aside0.mk ((Nat.le_trans HW0.out (by rw [hg]; exact (keep_size (w := w) (g := g) (row := none) tc1) : w.heap.size ≤ gb275) : w0.heap.size ≤ gb275)); have n6_ := Aside0.mk ((by rw [hg]; exact Nat.ne_of_lt (IsS79.lt (show IsS79 w0 _ g s0_0 s0_1 from tc0)) : g ≠ gb275)); have n7_ := Aside0.mk ((by rw [hg]; exact Nat.ne_of_gt (IsS79.lt (show IsS79 w0 _ g s0_0 s0_1 from tc0)) : gb275 ≠ g)); clear HI0; clear HK; clear HB; have HI0 := n0_; have HK := n1_; have HB := n2_; have BK275 := n3_; have GW275 := n4_; have GE275 := n5_; have NB0_275 := n6_; have NB275_0 := n7_; clear n0_ n1_ n2_ n3_ n4_ n5_ n6_ n7_; clear hb hbox hg; obtain ⟨HGz53, hgz53⟩ := HI0.out; have hcz53_0 := cellS79_0 HGz53; have hcz53_1 := cellS79_1 HGz53; have hfz53_0 := blk_frozen HGz53 0; have hfz53_1 := blk_frozen HGz53 1; clear HGz53 hgz53) | ((with_reducible refine gate_dst (N := 4) rfl ?_); refine box_event ?hg (N := 4) ?hd (cs := #[.int .i64 0, .int .i64 0, .int .i64 0, .slice none 0 0, .slice none 0 0]) (t := 40) ?hr ?_; (case hd => rfl); (case hg => rfl); (case hr => first | (go_simp; done) | (go_simp; rfl)); intro gb276 hg w54 hbox hb; have n0_ := Aside0.mk (IsS79.below tc25 hb); have n1_ := Aside0.mk (blk_below (g := gb275) (o := .cells #[.int .i64 0, .int .i64 0, .int .i64 0, .slice none 0 0, .slice none 0 0] 40 (0, 0)) tc26 hb); have n2_ := Aside0.mk (KeepBut.trans tc27 (KeepBut.of_below hb g none) (.inl rfl)); have n3_ := Aside0.mk (below_step tc51 hb); have n4_ := Aside0.mk (hbox); have n5_ := Aside0.mk ((by rw [hg]; exact (keep_size (w := w) (g := g) (row := none) tc27) : w.heap.size ≤ gb276)); have n6_ := Aside0.mk ((Nat.le_trans HW0.out (by rw [hg]; exact (keep_size (w := w) (g := g) (row := none) tc27) : w.heap.size ≤ gb276) : w0.heap.size ≤ gb276)); have n7_ := Aside0.mk ((by rw [hg]; exact Nat.ne_of_lt (blk_lt (g := gb275) (o := .cells #[.int .i64 0, .int .i64 0, .int .i64 0, .slice none 0 0, .slice none 0 0] 40 (0, 0)) tc26) : gb275 ≠ gb276)); have n8_ := Aside0.mk ((by rw [hg]; exact Nat.ne_of_gt (blk_lt (g := gb275) (o := .cells #[.int .i64 0, .int .i64 0, .int .i64 0, .slice none 0 0, .slice none 0 0] 40 (0, 0)) tc26) : gb276 ≠ gb275)); have n9_ := Aside0.mk ((by rw [hg]; exact Nat.ne_of_lt (IsS79.lt (show IsS79 w0 _ g s0_0 s0_1 from tc25)) : g ≠ gb276)); have n10_ := Aside0.mk ((by rw [hg]; exact Nat.ne_of_gt (IsS79.lt (show IsS79 w0 _ g s0_0 s0_1 from tc25)) : gb276 ≠ g)); clear HI0; clear BK275; clear HK; clear HB; have HI0 := n0_; have BK275 := n1_; have HK := n2_; have HB := n3_; have BK276 := n4_; have GW276 := n5_; have GE276 := n6_; have NB275_276 := n7_; have NB276_275 := n8_; have NB0_276 := n9_; have NB276_0 := n10_; clear n0_ n1_ n2_ n3_ n4_ n5_ n6_ n7_ n8_ n9_ n10_; clear hb hbox hg; have hnb55 := NB276_275.out; have hnc55 := NB275_276.out; have hnb56 := NB276_0.out; have hnc56 := NB0_276.out; have hcz57_0 : w54.cell? ⟨gb276, 0, none⟩ = some (.int .i64 0) := (blk_cell BK276.out 0).trans rfl; have hcz57_1 : w54.cell? ⟨gb276, 1, none⟩ = some (.int .i64 0) := (blk_cell BK276.out 1).trans rfl; have hcz57_2 : w54.cell? ⟨gb276, 2, none⟩ = some (.int .i64 0) := (blk_cell BK276.out 2).trans rfl; have hcz57_3 : w54.cell? ⟨gb276, 3, none⟩ = some (.slice none 0 0) := (blk_cell BK276.out 3).trans rfl; have hcz57_4 : w54.cell? ⟨gb276, 4, none⟩ = some (.slice none 0 0) := (blk_cell BK276.out 4).trans rfl; have hfz57_0 := blk_frozen BK276.out 0; have hfz57_1 := blk_frozen BK276.out 1; have hfz57_2 := blk_frozen BK276.out 2; have hfz57_3 := blk_frozen BK276.out 3; have hfz57_4 := blk_frozen BK276.out 4) | ((with_reducible refine gate_callee (f := 69) rfl ?_); refine goesL_ (some 13) rfl rfl Tryz.func69 (by kernel_rfl) rfl #[.pointer (some ⟨g, 0, none⟩)] rfl tc3 ?_; (with_reducible refine (spec_reader_here.calls g s0_0 s0_1 t277 t278 t279 w0 _ ?side1 ?side2 A2.out).mono ?_); (case side1 => exact tc6); (case side2 => exact tc7); rintro e w58 ⟨rfl, hi, hb, hk⟩; refine ⟨_, rfl, ?_⟩; have n0_ := Aside0.mk (KeepBut.blk hk (g' := gb275) (o := .cells #[.int .i64 0, .int .i64 0, .int .i64 0, .slice none 0 0, .slice none 0 0] 40 (0, 0)) tc22 NB275_0.out (by simp)); have n1_ := Aside0.mk (KeepBut.blk hk (g' := gb276) (o := .cells #[.int .i64 0, .int .i64 s0_1, .int .i64 0, .slice none 0 0, .slice none 0 0] 40 (0, 0)) tc13 NB276_0.out (by simp)); have n2_ := Aside0.mk (KeepBut.trans tc8 hk (.inl rfl)); have n3_ := Aside0.mk (hb); have n4_ := Aside0.mk (hi); clear BK275; clear BK276; clear HK; clear HB; clear HI0; have BK275 := n0_; have BK276 := n1_; have HK := n2_; have HB := n3_; have HI0 := n4_; clear n0_ n1_ n2_ n3_ n4_; (try clear hb); (try clear hb2); (try clear hk); (try clear hi)))
        (try simp only [Act.put, List.setIfInBounds_toArray, List.set_cons_zero, List.set_cons_succ])
        go_cut [42] (fun v42 wc => ∃ (kq : Nat) (x42_50 : Bool), v42 = .bool x42_50 ∧ Aside0 (spec_reader_value.j0 kq true x42_50 t278 t279 0 s0_1 0 = some (r1, r2, r3, r4, r5, r6, r7, r8)) ∧ Aside0 (kq ≤ k) ∧ Aside0 (wc.heap[gb275]? = some (.cells #[.int .i64 0, .int .i64 0, .int .i64 0, (.slice none 0 0), (.slice none 0 0)] 40 (0, 0))) ∧ Aside0 (wc.heap[gb276]? = some (.cells #[.int .i64 0, .int .i64 s0_1, .int .i64 0, (.slice none 0 0), (.slice none 0 0)] 40 (0, 0))) ∧ Aside0 (IsS79 w0 wc g t278 t279) ∧ Aside0 (KeepBut w wc g none) ∧ Aside0 (Below w0.heap.size w0 wc))
        case first =>
          have H := HC51.out
          clear HC51
          by_cases c59 : t277 = 45
          · rw [if_pos c59] at H
            have c59b0 : (t277 == 45) = true := beq_iff_eq.mpr c59
            have c59b1 : (t277 != 45) = false := bne_eq_false_iff_eq.mpr c59
            clear c59
            (first | rw [c59b0] | (simp only [i64_w, i32_w]; rw [c59b0]) | skip)
            have H' := Aside0.mk H
            clear H
            go_wp2
            go_meet
            case rel => exact ⟨_, (true), (by first | rfl | (simp; done) | (simp [*]; done)), H', ⟨by first | omega | exact Nat.le_refl _⟩, ⟨by (with_reducible repeat (first | refine blk_drewN ?_ _ | refine blk_drew ?_ | refine blk_alloc ?_ _)); exact BK275.out⟩, ⟨by (with_reducible repeat (first | refine blk_drewN ?_ _ | refine blk_drew ?_ | refine blk_alloc ?_ _)); exact BK276.out⟩, ⟨tc6⟩, ⟨tc8⟩, ⟨tc7⟩⟩
          · rw [if_neg c59] at H
            have c59b0 : (t277 == 45) = false := beq_eq_false_iff_ne.mpr c59
            have c59b1 : (t277 != 45) = true := bne_iff_ne.mpr c59
            (first | rw [c59b0] | (simp only [i64_w, i32_w]; rw [c59b0]) | skip)
            by_cases c60 : 48 ≤ t277
            · rw [if_pos c60] at H
              have c60b0 : decide (48 ≤ t277) = true := decide_eq_true c60
              clear c60
              have H' := Aside0.mk H
              clear H
              go_wp2
              go_meet
              case rel => exact ⟨_, (decide (t277 ≤ 57)), (by first | rfl | (simp; done) | (simp [*]; done)), H', ⟨by first | omega | exact Nat.le_refl _⟩, ⟨by (with_reducible repeat (first | refine blk_drewN ?_ _ | refine blk_drew ?_ | refine blk_alloc ?_ _)); exact BK275.out⟩, ⟨by (with_reducible repeat (first | refine blk_drewN ?_ _ | refine blk_drew ?_ | refine blk_alloc ?_ _)); exact BK276.out⟩, ⟨tc6⟩, ⟨tc8⟩, ⟨tc7⟩⟩
            · rw [if_neg c60] at H
              have c60b0 : decide (48 ≤ t277) = false := decide_eq_false c60
              clear c60
              have H' := Aside0.mk H
              clear H
              go_wp2
              go_meet
              case rel => exact ⟨_, (false), (by first | rfl | (simp; done) | (simp [*]; done)), H', ⟨by first | omega | exact Nat.le_refl _⟩, ⟨by (with_reducible repeat (first | refine blk_drewN ?_ _ | refine blk_drew ?_ | refine blk_alloc ?_ _)); exact BK275.out⟩, ⟨by (with_reducible repeat (first | refine blk_drewN ?_ _ | refine blk_drew ?_ | refine blk_alloc ?_ _)); exact BK276.out⟩, ⟨tc6⟩, ⟨tc8⟩, ⟨tc7⟩⟩
        case rest =>
          clear HC51
          try clear c1
          try clear c2
          try clear p2
          try clear c3
          try clear c3b0
          try clear c3b1
          try clear c4
          try clear c5
          try clear c6
          try clear c7
          try clear c8
          try clear c9
          try clear c18
          try clear c20
          try clear c20b0
          try clear c20b1
          try clear c25
          try clear c26
          try clear c34
          try clear c36
          try clear c36b0
          try clear c36b1
          try clear c41
          try clear c42
          try clear c49
          try clear c55
          try clear c56
          try clear c59
          try clear c59b0
          try clear c59b1
          try clear c60
          try clear c60b0
          try clear hcz10_0
          try clear hcz10_1
          try clear hcz10_2
          try clear hcz10_3
          try clear hcz10_4
          try clear hcz12_0
          try clear hcz12_1
          try clear hcz12_2
          try clear hcz12_3
          try clear hcz12_4
          try clear hcz15_0
          try clear hcz15_1
          try clear hcz15_2
          try clear hcz15_3
          try clear hcz15_4
          try clear hcz17_0
          try clear hcz17_1
          try clear hcz19_0
          try clear hcz19_1
          try clear hcz19_2
          try clear hcz19_3
          try clear hcz19_4
          try clear hcz23_0
          try clear hcz23_1
          try clear hcz27_0
          try clear hcz27_1
          try clear hcz27_2
          try clear hcz27_3
          try clear hcz27_4
          try clear hcz29_0
          try clear hcz29_1
          try clear hcz29_2
          try clear hcz29_3
          try clear hcz29_4
          try clear hcz32_0
          try clear hcz32_1
          try clear hcz32_2
          try clear hcz32_3
          try clear hcz32_4
          try clear hcz33_0
          try clear hcz33_1
          try clear hcz35_0
          try clear hcz35_1
          try clear hcz35_2
          try clear hcz35_3
          try clear hcz35_4
          try clear hcz39_0
          try clear hcz39_1
          try clear hcz43_0
          try clear hcz43_1
          try clear hcz43_2
          try clear hcz43_3
          try clear hcz43_4
          try clear hcz45_0
          try clear hcz45_1
          try clear hcz45_2
          try clear hcz45_3
          try clear hcz45_4
          try clear hcz47_0
          try clear hcz47_1
          try clear hcz48_0
          try clear hcz48_1
          try clear hcz48_2
          try clear hcz48_3
          try clear hcz48_4
          try clear hcz50_0
          try clear hcz50_1
          try clear hcz50_2
          try clear hcz50_3
          try clear hcz50_4
          try clear hcz53_0
          try clear hcz53_1
          try clear hcz57_0
          try clear hcz57_1
          try clear hcz57_2
          try clear hcz57_3
          try clear hcz57_4
          try clear hcz6_0
          try clear hcz6_1
          try clear hfz10_0
          try clear hfz10_1
          try clear hfz10_2
          try clear hfz10_3
          try clear hfz10_4
          try clear hfz12_0
          try clear hfz12_1
          try clear hfz12_2
          try clear hfz12_3
          try clear hfz12_4
          try clear hfz15_0
          try clear hfz15_1
          try clear hfz15_2
          try clear hfz15_3
          try clear hfz15_4
          try clear hfz17_0
          try clear hfz17_1
          try clear hfz19_0
          try clear hfz19_1
          try clear hfz19_2
          try clear hfz19_3
          try clear hfz19_4
          try clear hfz23_0
          try clear hfz23_1
          try clear hfz27_0
          try clear hfz27_1
          try clear hfz27_2
          try clear hfz27_3
          try clear hfz27_4
          try clear hfz29_0
          try clear hfz29_1
          try clear hfz29_2
          try clear hfz29_3
          try clear hfz29_4
          try clear hfz32_0
          try clear hfz32_1
          try clear hfz32_2
          try clear hfz32_3
          try clear hfz32_4
          try clear hfz33_0
          try clear hfz33_1
          try clear hfz35_0
          try clear hfz35_1
          try clear hfz35_2
          try clear hfz35_3
          try clear hfz35_4
          try clear hfz39_0
          try clear hfz39_1
          try clear hfz43_0
          try clear hfz43_1
          try clear hfz43_2
          try clear hfz43_3
          try clear hfz43_4
          try clear hfz45_0
          try clear hfz45_1
          try clear hfz45_2
          try clear hfz45_3
          try clear hfz45_4
          try clear hfz47_0
          try clear hfz47_1
          try clear hfz48_0
          try clear hfz48_1
          try clear hfz48_2
          try clear hfz48_3
          try clear hfz48_4
          try clear hfz50_0
          try clear hfz50_1
          try clear hfz50_2
          try clear hfz50_3
          try clear hfz50_4
          try clear hfz53_0
          try clear hfz53_1
          try clear hfz57_0
          try clear hfz57_1
          try clear hfz57_2
          try clear hfz57_3
          try clear hfz57_4
          try clear hfz6_0
          try clear hfz6_1
          obtain ⟨kq, x42_50, rfl, HA, HJ50, BK275, BK276, HI0, HK, HB⟩ := hcut
          cases kq with
          | zero => exact absurd HA.out (by simp [spec_reader_value.j0])
          | succ kj50 =>
            have H := HA.out
            clear HA
            simp only [spec_reader_value.j0] at H
            by_cases c61 : x42_50 = true
            · subst c61
              have H1 : ((spec_reader_number.f kj50 t278 t279).bind fun bt298 => (some (3, s0_1, bt298.2.2, ([] : List (S84)), ([] : List (S40)), bt298.1, bt298.2.1, bt298.2.2))) = some (r1, r2, r3, r4, r5, r6, r7, r8) := by rw [if_pos rfl] at H; exact H
              clear H
              have H := H1
              clear H1
              replace H := Option.bind_eq_some_iff.mp H
              obtain ⟨⟨t298, t299, t300⟩, A620, H⟩ := H
              replace H : (some (3, s0_1, t300, ([] : List (S84)), ([] : List (S40)), t298, t299, t300)) = some (r1, r2, r3, r4, r5, r6, r7, r8) := H
              have A62 := Aside0.mk A620
              clear A620
              simp only [Option.some.injEq, Prod.mk.injEq] at H
              obtain ⟨rfl, rfl, rfl, rfl, rfl, rfl, rfl, rfl⟩ := H
              have hnb63 := NB276_275.out
              have hnc63 := NB275_276.out
              have hnb64 := NB276_0.out
              have hnc64 := NB0_276.out
              have hcz65_0 : wc.cell? ⟨gb276, 0, none⟩ = some (.int .i64 0) := (blk_cell BK276.out 0).trans rfl
              have hcz65_1 : wc.cell? ⟨gb276, 1, none⟩ = some (.int .i64 s0_1) := (blk_cell BK276.out 1).trans rfl
              have hcz65_2 : wc.cell? ⟨gb276, 2, none⟩ = some (.int .i64 0) := (blk_cell BK276.out 2).trans rfl
              have hcz65_3 : wc.cell? ⟨gb276, 3, none⟩ = some (.slice none 0 0) := (blk_cell BK276.out 3).trans rfl
              have hcz65_4 : wc.cell? ⟨gb276, 4, none⟩ = some (.slice none 0 0) := (blk_cell BK276.out 4).trans rfl
              have hfz65_0 := blk_frozen BK276.out 0
              have hfz65_1 := blk_frozen BK276.out 1
              have hfz65_2 := blk_frozen BK276.out 2
              have hfz65_3 := blk_frozen BK276.out 3
              have hfz65_4 := blk_frozen BK276.out 4
              go_wp2_with (first | ((with_reducible refine gate_callee (f := 73) rfl ?_); refine goesL_ (some 55) rfl rfl Tryz.func73 (by kernel_rfl) rfl #[.pointer (some ⟨g, 0, none⟩)] rfl tc3 ?_; (with_reducible refine (spec_reader_number.calls kj50 g t278 t279 t298 t299 t300 w0 _ ?side1 ?side2 A62.out).mono ?_); (case side1 => exact tc6); (case side2 => exact tc7); rintro e w66 ⟨rfl, hi, hb, hk⟩; refine ⟨_, rfl, ?_⟩; have n0_ := Aside0.mk (KeepBut.blk hk (g' := gb275) (o := .cells #[.int .i64 0, .int .i64 0, .int .i64 0, .slice none 0 0, .slice none 0 0] 40 (0, 0)) tc36 NB275_0.out (by simp)); have n1_ := Aside0.mk (KeepBut.blk hk (g' := gb276) (o := .cells #[.int .i64 3, .int .i64 s0_1, .int .i64 0, .slice none 0 0, .slice none 0 0] 40 (0, 0)) tc28 NB276_0.out (by simp)); have n2_ := Aside0.mk (KeepBut.trans tc8 hk (.inl rfl)); have n3_ := Aside0.mk (hb); have n4_ := Aside0.mk (hi); clear BK275; clear BK276; clear HK; clear HB; clear HI0; have BK275 := n0_; have BK276 := n1_; have HK := n2_; have HB := n3_; have HI0 := n4_; clear n0_ n1_ n2_ n3_ n4_; (try clear hb); (try clear hb2); (try clear hk); (try clear hi); obtain ⟨HGz67, hgz67⟩ := HI0.out; have hcz67_0 := cellS79_0 HGz67; have hcz67_1 := cellS79_1 HGz67; have hfz67_0 := blk_frozen HGz67 0; have hfz67_1 := blk_frozen HGz67 1; clear HGz67 hgz67; have hcz68_0 : w66.cell? ⟨gb276, 0, none⟩ = some (.int .i64 3) := (blk_cell BK276.out 0).trans rfl; have hcz68_1 : w66.cell? ⟨gb276, 1, none⟩ = some (.int .i64 s0_1) := (blk_cell BK276.out 1).trans rfl; have hcz68_2 : w66.cell? ⟨gb276, 2, none⟩ = some (.int .i64 0) := (blk_cell BK276.out 2).trans rfl; have hcz68_3 : w66.cell? ⟨gb276, 3, none⟩ = some (.slice none 0 0) := (blk_cell BK276.out 3).trans rfl; have hcz68_4 : w66.cell? ⟨gb276, 4, none⟩ = some (.slice none 0 0) := (blk_cell BK276.out 4).trans rfl; have hfz68_0 := blk_frozen BK276.out 0; have hfz68_1 := blk_frozen BK276.out 1; have hfz68_2 := blk_frozen BK276.out 2; have hfz68_3 := blk_frozen BK276.out 3; have hfz68_4 := blk_frozen BK276.out 4; have hnb69 := NB275_0.out; have hnc69 := NB0_275.out; have hcz70_0 : w66.cell? ⟨gb275, 0, none⟩ = some (.int .i64 0) := (blk_cell BK275.out 0).trans rfl; have hcz70_1 : w66.cell? ⟨gb275, 1, none⟩ = some (.int .i64 0) := (blk_cell BK275.out 1).trans rfl; have hcz70_2 : w66.cell? ⟨gb275, 2, none⟩ = some (.int .i64 0) := (blk_cell BK275.out 2).trans rfl; have hcz70_3 : w66.cell? ⟨gb275, 3, none⟩ = some (.slice none 0 0) := (blk_cell BK275.out 3).trans rfl; have hcz70_4 : w66.cell? ⟨gb275, 4, none⟩ = some (.slice none 0 0) := (blk_cell BK275.out 4).trans rfl; have hfz70_0 := blk_frozen BK275.out 0; have hfz70_1 := blk_frozen BK275.out 1; have hfz70_2 := blk_frozen BK275.out 2; have hfz70_3 := blk_frozen BK275.out 3; have hfz70_4 := blk_frozen BK275.out 4))
              refine bodyPost_ret (results_ct rfl _ _ gb275 40 #[.int .i64 3, .int .i64 s0_1, .int .i64 t300, .slice none 0 0, .slice none 0 0] (0, 0) _ rfl (by (with_reducible repeat (first | refine blk_drewN ?_ _ | refine blk_drew ?_ | refine blk_alloc ?_ _)); refine blk_put (cs := #[.int .i64 3, .int .i64 s0_1, .int .i64 t300, .slice none 0 0, .slice none 0 0]) ?_ 4 _ rfl; (with_reducible repeat (first | refine blk_drewN ?_ _ | refine blk_drew ?_ | refine blk_alloc ?_ _)); refine blk_put (cs := #[.int .i64 3, .int .i64 s0_1, .int .i64 t300, .slice none 0 0, .slice none 0 0]) ?_ 3 _ rfl; (with_reducible repeat (first | refine blk_drewN ?_ _ | refine blk_drew ?_ | refine blk_alloc ?_ _)); refine blk_put (cs := #[.int .i64 3, .int .i64 s0_1, .int .i64 0, .slice none 0 0, .slice none 0 0]) ?_ 2 _ rfl; (with_reducible repeat (first | refine blk_drewN ?_ _ | refine blk_drew ?_ | refine blk_alloc ?_ _)); refine blk_put (cs := #[.int .i64 3, .int .i64 0, .int .i64 0, .slice none 0 0, .slice none 0 0]) ?_ 1 _ rfl; (with_reducible repeat (first | refine blk_drewN ?_ _ | refine blk_drew ?_ | refine blk_alloc ?_ _)); refine blk_put (cs := #[.int .i64 0, .int .i64 0, .int .i64 0, .slice none 0 0, .slice none 0 0]) ?_ 0 _ rfl; (with_reducible repeat (first | refine blk_drewN ?_ _ | refine blk_drew ?_ | refine blk_alloc ?_ _)); refine blk_far ?_ NB275_276.out _; (with_reducible repeat (first | refine blk_drewN ?_ _ | refine blk_drew ?_ | refine blk_alloc ?_ _)); exact BK275.out) Tryz.underlying40 rfl (by kernel_rfl)) rfl ?_
              exact ⟨_, _, tc12, tc10, tc10, tc6, tc7, tc8⟩
            · replace c61 := Bool.eq_false_iff.mpr c61
              subst c61
              have H1 : ((spec_reader_word.f t278 t279 (⟨#[110, 117, 108, 108]⟩ : ByteArray)).bind fun bt301 => (if bt301.1 = true then (some (0, s0_1, bt301.2.2, ([] : List (S84)), ([] : List (S40)), true, bt301.2.1, bt301.2.2)) else ((spec_reader_word.f bt301.2.1 bt301.2.2 (⟨#[102, 97, 108, 115, 101]⟩ : ByteArray)).bind fun bt304 => (if bt304.1 = true then (some (1, s0_1, bt304.2.2, ([] : List (S84)), ([] : List (S40)), true, bt304.2.1, bt304.2.2)) else ((spec_reader_word.f bt304.2.1 bt304.2.2 (⟨#[116, 114, 117, 101]⟩ : ByteArray)).bind fun bt307 => (if bt307.1 = true then (some (2, s0_1, bt307.2.2, ([] : List (S84)), ([] : List (S40)), true, bt307.2.1, bt307.2.2)) else (some (0, s0_1, bt307.2.2, ([] : List (S84)), ([] : List (S40)), false, bt307.2.1, bt307.2.2)))))))) = some (r1, r2, r3, r4, r5, r6, r7, r8) := by rw [if_neg (show ¬ (false = true) by decide)] at H; exact H
              clear H
              have H := H1
              clear H1
              replace H := Option.bind_eq_some_iff.mp H
              obtain ⟨⟨t301, t302, t303⟩, A710, H⟩ := H
              replace H : (if t301 = true then (some (0, s0_1, t303, ([] : List (S84)), ([] : List (S40)), true, t302, t303)) else ((spec_reader_word.f t302 t303 (⟨#[102, 97, 108, 115, 101]⟩ : ByteArray)).bind fun bt304 => (if bt304.1 = true then (some (1, s0_1, bt304.2.2, ([] : List (S84)), ([] : List (S40)), true, bt304.2.1, bt304.2.2)) else ((spec_reader_word.f bt304.2.1 bt304.2.2 (⟨#[116, 114, 117, 101]⟩ : ByteArray)).bind fun bt307 => (if bt307.1 = true then (some (2, s0_1, bt307.2.2, ([] : List (S84)), ([] : List (S40)), true, bt307.2.1, bt307.2.2)) else (some (0, s0_1, bt307.2.2, ([] : List (S84)), ([] : List (S40)), false, bt307.2.1, bt307.2.2))))))) = some (r1, r2, r3, r4, r5, r6, r7, r8) := H
              have A71 := Aside0.mk A710
              clear A710
              by_cases c72 : t301 = true
              · subst c72
                have H1 : (some (0, s0_1, t303, ([] : List (S84)), ([] : List (S40)), true, t302, t303)) = some (r1, r2, r3, r4, r5, r6, r7, r8) := by rw [if_pos rfl] at H; exact H
                clear H
                have H := H1
                clear H1
                simp only [Option.some.injEq, Prod.mk.injEq] at H
                obtain ⟨rfl, rfl, rfl, rfl, rfl, rfl, rfl, rfl⟩ := H
                go_wp2_with (first | ((with_reducible refine gate_callee (f := 74) rfl ?_); refine goesL_ (some 58) rfl rfl Tryz.func74 (by kernel_rfl) rfl #[.pointer (some ⟨g, 0, none⟩), .string (⟨#[110, 117, 108, 108]⟩ : ByteArray)] rfl tc3 ?_; (with_reducible refine (spec_reader_word.calls g t278 t279 (⟨#[110, 117, 108, 108]⟩ : ByteArray) true t302 t303 w0 _ ?side1 ?side2 A71.out).mono ?_); (case side1 => exact tc6); (case side2 => exact tc7); rintro e w73 ⟨rfl, hi, hb, hk⟩; refine ⟨_, rfl, ?_⟩; have n0_ := Aside0.mk (KeepBut.blk hk (g' := gb275) (o := .cells #[.int .i64 0, .int .i64 0, .int .i64 0, .slice none 0 0, .slice none 0 0] 40 (0, 0)) tc26 NB275_0.out (by simp)); have n1_ := Aside0.mk (KeepBut.blk hk (g' := gb276) (o := .cells #[.int .i64 0, .int .i64 s0_1, .int .i64 0, .slice none 0 0, .slice none 0 0] 40 (0, 0)) tc44 NB276_0.out (by simp)); have n2_ := Aside0.mk (KeepBut.trans tc8 hk (.inl rfl)); have n3_ := Aside0.mk (hb); have n4_ := Aside0.mk (hi); clear BK275; clear BK276; clear HK; clear HB; clear HI0; have BK275 := n0_; have BK276 := n1_; have HK := n2_; have HB := n3_; have HI0 := n4_; clear n0_ n1_ n2_ n3_ n4_; (try clear hb); (try clear hb2); (try clear hk); (try clear hi); have hnb74 := NB276_275.out; have hnc74 := NB275_276.out; have hnb75 := NB276_0.out; have hnc75 := NB0_276.out; have hcz76_0 : w73.cell? ⟨gb276, 0, none⟩ = some (.int .i64 0) := (blk_cell BK276.out 0).trans rfl; have hcz76_1 : w73.cell? ⟨gb276, 1, none⟩ = some (.int .i64 s0_1) := (blk_cell BK276.out 1).trans rfl; have hcz76_2 : w73.cell? ⟨gb276, 2, none⟩ = some (.int .i64 0) := (blk_cell BK276.out 2).trans rfl; have hcz76_3 : w73.cell? ⟨gb276, 3, none⟩ = some (.slice none 0 0) := (blk_cell BK276.out 3).trans rfl; have hcz76_4 : w73.cell? ⟨gb276, 4, none⟩ = some (.slice none 0 0) := (blk_cell BK276.out 4).trans rfl; have hfz76_0 := blk_frozen BK276.out 0; have hfz76_1 := blk_frozen BK276.out 1; have hfz76_2 := blk_frozen BK276.out 2; have hfz76_3 := blk_frozen BK276.out 3; have hfz76_4 := blk_frozen BK276.out 4; obtain ⟨HGz77, hgz77⟩ := HI0.out; have hcz77_0 := cellS79_0 HGz77; have hcz77_1 := cellS79_1 HGz77; have hfz77_0 := blk_frozen HGz77 0; have hfz77_1 := blk_frozen HGz77 1; clear HGz77 hgz77; have hnb78 := NB275_0.out; have hnc78 := NB0_275.out; have hcz79_0 : w73.cell? ⟨gb275, 0, none⟩ = some (.int .i64 0) := (blk_cell BK275.out 0).trans rfl; have hcz79_1 : w73.cell? ⟨gb275, 1, none⟩ = some (.int .i64 0) := (blk_cell BK275.out 1).trans rfl; have hcz79_2 : w73.cell? ⟨gb275, 2, none⟩ = some (.int .i64 0) := (blk_cell BK275.out 2).trans rfl; have hcz79_3 : w73.cell? ⟨gb275, 3, none⟩ = some (.slice none 0 0) := (blk_cell BK275.out 3).trans rfl; have hcz79_4 : w73.cell? ⟨gb275, 4, none⟩ = some (.slice none 0 0) := (blk_cell BK275.out 4).trans rfl; have hfz79_0 := blk_frozen BK275.out 0; have hfz79_1 := blk_frozen BK275.out 1; have hfz79_2 := blk_frozen BK275.out 2; have hfz79_3 := blk_frozen BK275.out 3; have hfz79_4 := blk_frozen BK275.out 4))
                refine bodyPost_ret (results_ct rfl _ _ gb275 40 #[.int .i64 0, .int .i64 s0_1, .int .i64 t303, .slice none 0 0, .slice none 0 0] (0, 0) _ rfl (by (with_reducible repeat (first | refine blk_drewN ?_ _ | refine blk_drew ?_ | refine blk_alloc ?_ _)); refine blk_put (cs := #[.int .i64 0, .int .i64 s0_1, .int .i64 t303, .slice none 0 0, .slice none 0 0]) ?_ 4 _ rfl; (with_reducible repeat (first | refine blk_drewN ?_ _ | refine blk_drew ?_ | refine blk_alloc ?_ _)); refine blk_put (cs := #[.int .i64 0, .int .i64 s0_1, .int .i64 t303, .slice none 0 0, .slice none 0 0]) ?_ 3 _ rfl; (with_reducible repeat (first | refine blk_drewN ?_ _ | refine blk_drew ?_ | refine blk_alloc ?_ _)); refine blk_put (cs := #[.int .i64 0, .int .i64 s0_1, .int .i64 0, .slice none 0 0, .slice none 0 0]) ?_ 2 _ rfl; (with_reducible repeat (first | refine blk_drewN ?_ _ | refine blk_drew ?_ | refine blk_alloc ?_ _)); refine blk_put (cs := #[.int .i64 0, .int .i64 0, .int .i64 0, .slice none 0 0, .slice none 0 0]) ?_ 1 _ rfl; (with_reducible repeat (first | refine blk_drewN ?_ _ | refine blk_drew ?_ | refine blk_alloc ?_ _)); refine blk_put (cs := #[.int .i64 0, .int .i64 0, .int .i64 0, .slice none 0 0, .slice none 0 0]) ?_ 0 _ rfl; (with_reducible repeat (first | refine blk_drewN ?_ _ | refine blk_drew ?_ | refine blk_alloc ?_ _)); refine blk_far ?_ NB275_276.out _; (with_reducible repeat (first | refine blk_drewN ?_ _ | refine blk_drew ?_ | refine blk_alloc ?_ _)); refine blk_far ?_ NB275_276.out _; (with_reducible repeat (first | refine blk_drewN ?_ _ | refine blk_drew ?_ | refine blk_alloc ?_ _)); exact BK275.out) Tryz.underlying40 rfl (by kernel_rfl)) rfl ?_
                exact ⟨_, _, tc12, tc10, tc10, tc6, tc7, tc8⟩
              · replace c72 := Bool.eq_false_iff.mpr c72
                subst c72
                have H1 : ((spec_reader_word.f t302 t303 (⟨#[102, 97, 108, 115, 101]⟩ : ByteArray)).bind fun bt304 => (if bt304.1 = true then (some (1, s0_1, bt304.2.2, ([] : List (S84)), ([] : List (S40)), true, bt304.2.1, bt304.2.2)) else ((spec_reader_word.f bt304.2.1 bt304.2.2 (⟨#[116, 114, 117, 101]⟩ : ByteArray)).bind fun bt307 => (if bt307.1 = true then (some (2, s0_1, bt307.2.2, ([] : List (S84)), ([] : List (S40)), true, bt307.2.1, bt307.2.2)) else (some (0, s0_1, bt307.2.2, ([] : List (S84)), ([] : List (S40)), false, bt307.2.1, bt307.2.2)))))) = some (r1, r2, r3, r4, r5, r6, r7, r8) := by rw [if_neg (show ¬ (false = true) by decide)] at H; exact H
                clear H
                have H := H1
                clear H1
                replace H := Option.bind_eq_some_iff.mp H
                obtain ⟨⟨t304, t305, t306⟩, A800, H⟩ := H
                replace H : (if t304 = true then (some (1, s0_1, t306, ([] : List (S84)), ([] : List (S40)), true, t305, t306)) else ((spec_reader_word.f t305 t306 (⟨#[116, 114, 117, 101]⟩ : ByteArray)).bind fun bt307 => (if bt307.1 = true then (some (2, s0_1, bt307.2.2, ([] : List (S84)), ([] : List (S40)), true, bt307.2.1, bt307.2.2)) else (some (0, s0_1, bt307.2.2, ([] : List (S84)), ([] : List (S40)), false, bt307.2.1, bt307.2.2))))) = some (r1, r2, r3, r4, r5, r6, r7, r8) := H
                have A80 := Aside0.mk A800
                clear A800
                by_cases c81 : t304 = true
                · subst c81
                  have H1 : (some (1, s0_1, t306, ([] : List (S84)), ([] : List (S40)), true, t305, t306)) = some (r1, r2, r3, r4, r5, r6, r7, r8) := by rw [if_pos rfl] at H; exact H
                  clear H
                  have H := H1
                  clear H1
                  simp only [Option.some.injEq, Prod.mk.injEq] at H
                  obtain ⟨rfl, rfl, rfl, rfl, rfl, rfl, rfl, rfl⟩ := H
                  go_wp2_with (first | ((with_reducible refine gate_callee (f := 74) rfl ?_); refine goesL_ (some 58) rfl rfl Tryz.func74 (by kernel_rfl) rfl #[.pointer (some ⟨g, 0, none⟩), .string (⟨#[110, 117, 108, 108]⟩ : ByteArray)] rfl tc3 ?_; (with_reducible refine (spec_reader_word.calls g t278 t279 (⟨#[110, 117, 108, 108]⟩ : ByteArray) false t302 t303 w0 _ ?side1 ?side2 A71.out).mono ?_); (case side1 => exact tc6); (case side2 => exact tc7); rintro e w82 ⟨rfl, hi, hb, hk⟩; refine ⟨_, rfl, ?_⟩; have n0_ := Aside0.mk (KeepBut.blk hk (g' := gb275) (o := .cells #[.int .i64 0, .int .i64 0, .int .i64 0, .slice none 0 0, .slice none 0 0] 40 (0, 0)) tc26 NB275_0.out (by simp)); have n1_ := Aside0.mk (KeepBut.blk hk (g' := gb276) (o := .cells #[.int .i64 0, .int .i64 s0_1, .int .i64 0, .slice none 0 0, .slice none 0 0] 40 (0, 0)) tc44 NB276_0.out (by simp)); have n2_ := Aside0.mk (KeepBut.trans tc8 hk (.inl rfl)); have n3_ := Aside0.mk (hb); have n4_ := Aside0.mk (hi); clear BK275; clear BK276; clear HK; clear HB; clear HI0; have BK275 := n0_; have BK276 := n1_; have HK := n2_; have HB := n3_; have HI0 := n4_; clear n0_ n1_ n2_ n3_ n4_; (try clear hb); (try clear hb2); (try clear hk); (try clear hi)) | ((with_reducible refine gate_callee (f := 74) rfl ?_); refine goesL_ (some 62) rfl rfl Tryz.func74 (by kernel_rfl) rfl #[.pointer (some ⟨g, 0, none⟩), .string (⟨#[102, 97, 108, 115, 101]⟩ : ByteArray)] rfl tc3 ?_; (with_reducible refine (spec_reader_word.calls g t302 t303 (⟨#[102, 97, 108, 115, 101]⟩ : ByteArray) true t305 t306 w0 _ ?side1 ?side2 A80.out).mono ?_); (case side1 => exact tc6); (case side2 => exact tc7); rintro e w83 ⟨rfl, hi, hb, hk⟩; refine ⟨_, rfl, ?_⟩; have n0_ := Aside0.mk (KeepBut.blk hk (g' := gb275) (o := .cells #[.int .i64 0, .int .i64 0, .int .i64 0, .slice none 0 0, .slice none 0 0] 40 (0, 0)) tc26 NB275_0.out (by simp)); have n1_ := Aside0.mk (KeepBut.blk hk (g' := gb276) (o := .cells #[.int .i64 0, .int .i64 s0_1, .int .i64 0, .slice none 0 0, .slice none 0 0] 40 (0, 0)) tc44 NB276_0.out (by simp)); have n2_ := Aside0.mk (KeepBut.trans tc8 hk (.inl rfl)); have n3_ := Aside0.mk (hb); have n4_ := Aside0.mk (hi); clear BK275; clear BK276; clear HK; clear HB; clear HI0; have BK275 := n0_; have BK276 := n1_; have HK := n2_; have HB := n3_; have HI0 := n4_; clear n0_ n1_ n2_ n3_ n4_; (try clear hb); (try clear hb2); (try clear hk); (try clear hi); have hnb84 := NB276_275.out; have hnc84 := NB275_276.out; have hnb85 := NB276_0.out; have hnc85 := NB0_276.out; have hcz86_0 : w83.cell? ⟨gb276, 0, none⟩ = some (.int .i64 0) := (blk_cell BK276.out 0).trans rfl; have hcz86_1 : w83.cell? ⟨gb276, 1, none⟩ = some (.int .i64 s0_1) := (blk_cell BK276.out 1).trans rfl; have hcz86_2 : w83.cell? ⟨gb276, 2, none⟩ = some (.int .i64 0) := (blk_cell BK276.out 2).trans rfl; have hcz86_3 : w83.cell? ⟨gb276, 3, none⟩ = some (.slice none 0 0) := (blk_cell BK276.out 3).trans rfl; have hcz86_4 : w83.cell? ⟨gb276, 4, none⟩ = some (.slice none 0 0) := (blk_cell BK276.out 4).trans rfl; have hfz86_0 := blk_frozen BK276.out 0; have hfz86_1 := blk_frozen BK276.out 1; have hfz86_2 := blk_frozen BK276.out 2; have hfz86_3 := blk_frozen BK276.out 3; have hfz86_4 := blk_frozen BK276.out 4; obtain ⟨HGz87, hgz87⟩ := HI0.out; have hcz87_0 := cellS79_0 HGz87; have hcz87_1 := cellS79_1 HGz87; have hfz87_0 := blk_frozen HGz87 0; have hfz87_1 := blk_frozen HGz87 1; clear HGz87 hgz87; have hnb88 := NB275_0.out; have hnc88 := NB0_275.out; have hcz89_0 : w83.cell? ⟨gb275, 0, none⟩ = some (.int .i64 0) := (blk_cell BK275.out 0).trans rfl; have hcz89_1 : w83.cell? ⟨gb275, 1, none⟩ = some (.int .i64 0) := (blk_cell BK275.out 1).trans rfl; have hcz89_2 : w83.cell? ⟨gb275, 2, none⟩ = some (.int .i64 0) := (blk_cell BK275.out 2).trans rfl; have hcz89_3 : w83.cell? ⟨gb275, 3, none⟩ = some (.slice none 0 0) := (blk_cell BK275.out 3).trans rfl; have hcz89_4 : w83.cell? ⟨gb275, 4, none⟩ = some (.slice none 0 0) := (blk_cell BK275.out 4).trans rfl; have hfz89_0 := blk_frozen BK275.out 0; have hfz89_1 := blk_frozen BK275.out 1; have hfz89_2 := blk_frozen BK275.out 2; have hfz89_3 := blk_frozen BK275.out 3; have hfz89_4 := blk_frozen BK275.out 4))
                  refine bodyPost_ret (results_ct rfl _ _ gb275 40 #[.int .i64 1, .int .i64 s0_1, .int .i64 t306, .slice none 0 0, .slice none 0 0] (0, 0) _ rfl (by (with_reducible repeat (first | refine blk_drewN ?_ _ | refine blk_drew ?_ | refine blk_alloc ?_ _)); refine blk_put (cs := #[.int .i64 1, .int .i64 s0_1, .int .i64 t306, .slice none 0 0, .slice none 0 0]) ?_ 4 _ rfl; (with_reducible repeat (first | refine blk_drewN ?_ _ | refine blk_drew ?_ | refine blk_alloc ?_ _)); refine blk_put (cs := #[.int .i64 1, .int .i64 s0_1, .int .i64 t306, .slice none 0 0, .slice none 0 0]) ?_ 3 _ rfl; (with_reducible repeat (first | refine blk_drewN ?_ _ | refine blk_drew ?_ | refine blk_alloc ?_ _)); refine blk_put (cs := #[.int .i64 1, .int .i64 s0_1, .int .i64 0, .slice none 0 0, .slice none 0 0]) ?_ 2 _ rfl; (with_reducible repeat (first | refine blk_drewN ?_ _ | refine blk_drew ?_ | refine blk_alloc ?_ _)); refine blk_put (cs := #[.int .i64 1, .int .i64 0, .int .i64 0, .slice none 0 0, .slice none 0 0]) ?_ 1 _ rfl; (with_reducible repeat (first | refine blk_drewN ?_ _ | refine blk_drew ?_ | refine blk_alloc ?_ _)); refine blk_put (cs := #[.int .i64 0, .int .i64 0, .int .i64 0, .slice none 0 0, .slice none 0 0]) ?_ 0 _ rfl; (with_reducible repeat (first | refine blk_drewN ?_ _ | refine blk_drew ?_ | refine blk_alloc ?_ _)); refine blk_far ?_ NB275_276.out _; (with_reducible repeat (first | refine blk_drewN ?_ _ | refine blk_drew ?_ | refine blk_alloc ?_ _)); refine blk_far ?_ NB275_276.out _; (with_reducible repeat (first | refine blk_drewN ?_ _ | refine blk_drew ?_ | refine blk_alloc ?_ _)); exact BK275.out) Tryz.underlying40 rfl (by kernel_rfl)) rfl ?_
                  exact ⟨_, _, tc12, tc10, tc10, tc6, tc7, tc8⟩
                · replace c81 := Bool.eq_false_iff.mpr c81
                  subst c81
                  have H1 : ((spec_reader_word.f t305 t306 (⟨#[116, 114, 117, 101]⟩ : ByteArray)).bind fun bt307 => (if bt307.1 = true then (some (2, s0_1, bt307.2.2, ([] : List (S84)), ([] : List (S40)), true, bt307.2.1, bt307.2.2)) else (some (0, s0_1, bt307.2.2, ([] : List (S84)), ([] : List (S40)), false, bt307.2.1, bt307.2.2)))) = some (r1, r2, r3, r4, r5, r6, r7, r8) := by rw [if_neg (show ¬ (false = true) by decide)] at H; exact H
                  clear H
                  have H := H1
                  clear H1
                  replace H := Option.bind_eq_some_iff.mp H
                  obtain ⟨⟨t307, t308, t309⟩, A900, H⟩ := H
                  replace H : (if t307 = true then (some (2, s0_1, t309, ([] : List (S84)), ([] : List (S40)), true, t308, t309)) else (some (0, s0_1, t309, ([] : List (S84)), ([] : List (S40)), false, t308, t309))) = some (r1, r2, r3, r4, r5, r6, r7, r8) := H
                  have A90 := Aside0.mk A900
                  clear A900
                  by_cases c91 : t307 = true
                  · subst c91
                    have H1 : (some (2, s0_1, t309, ([] : List (S84)), ([] : List (S40)), true, t308, t309)) = some (r1, r2, r3, r4, r5, r6, r7, r8) := by rw [if_pos rfl] at H; exact H
                    clear H
                    have H := H1
                    clear H1
                    simp only [Option.some.injEq, Prod.mk.injEq] at H
                    obtain ⟨rfl, rfl, rfl, rfl, rfl, rfl, rfl, rfl⟩ := H
                    go_wp2_with (first | ((with_reducible refine gate_callee (f := 74) rfl ?_); refine goesL_ (some 58) rfl rfl Tryz.func74 (by kernel_rfl) rfl #[.pointer (some ⟨g, 0, none⟩), .string (⟨#[110, 117, 108, 108]⟩ : ByteArray)] rfl tc3 ?_; (with_reducible refine (spec_reader_word.calls g t278 t279 (⟨#[110, 117, 108, 108]⟩ : ByteArray) false t302 t303 w0 _ ?side1 ?side2 A71.out).mono ?_); (case side1 => exact tc6); (case side2 => exact tc7); rintro e w92 ⟨rfl, hi, hb, hk⟩; refine ⟨_, rfl, ?_⟩; have n0_ := Aside0.mk (KeepBut.blk hk (g' := gb275) (o := .cells #[.int .i64 0, .int .i64 0, .int .i64 0, .slice none 0 0, .slice none 0 0] 40 (0, 0)) tc26 NB275_0.out (by simp)); have n1_ := Aside0.mk (KeepBut.blk hk (g' := gb276) (o := .cells #[.int .i64 0, .int .i64 s0_1, .int .i64 0, .slice none 0 0, .slice none 0 0] 40 (0, 0)) tc44 NB276_0.out (by simp)); have n2_ := Aside0.mk (KeepBut.trans tc8 hk (.inl rfl)); have n3_ := Aside0.mk (hb); have n4_ := Aside0.mk (hi); clear BK275; clear BK276; clear HK; clear HB; clear HI0; have BK275 := n0_; have BK276 := n1_; have HK := n2_; have HB := n3_; have HI0 := n4_; clear n0_ n1_ n2_ n3_ n4_; (try clear hb); (try clear hb2); (try clear hk); (try clear hi)) | ((with_reducible refine gate_callee (f := 74) rfl ?_); refine goesL_ (some 62) rfl rfl Tryz.func74 (by kernel_rfl) rfl #[.pointer (some ⟨g, 0, none⟩), .string (⟨#[102, 97, 108, 115, 101]⟩ : ByteArray)] rfl tc3 ?_; (with_reducible refine (spec_reader_word.calls g t302 t303 (⟨#[102, 97, 108, 115, 101]⟩ : ByteArray) false t305 t306 w0 _ ?side1 ?side2 A80.out).mono ?_); (case side1 => exact tc6); (case side2 => exact tc7); rintro e w93 ⟨rfl, hi, hb, hk⟩; refine ⟨_, rfl, ?_⟩; have n0_ := Aside0.mk (KeepBut.blk hk (g' := gb275) (o := .cells #[.int .i64 0, .int .i64 0, .int .i64 0, .slice none 0 0, .slice none 0 0] 40 (0, 0)) tc26 NB275_0.out (by simp)); have n1_ := Aside0.mk (KeepBut.blk hk (g' := gb276) (o := .cells #[.int .i64 0, .int .i64 s0_1, .int .i64 0, .slice none 0 0, .slice none 0 0] 40 (0, 0)) tc44 NB276_0.out (by simp)); have n2_ := Aside0.mk (KeepBut.trans tc8 hk (.inl rfl)); have n3_ := Aside0.mk (hb); have n4_ := Aside0.mk (hi); clear BK275; clear BK276; clear HK; clear HB; clear HI0; have BK275 := n0_; have BK276 := n1_; have HK := n2_; have HB := n3_; have HI0 := n4_; clear n0_ n1_ n2_ n3_ n4_; (try clear hb); (try clear hb2); (try clear hk); (try clear hi)) | ((with_reducible refine gate_callee (f := 74) rfl ?_); refine goesL_ (some 66) rfl rfl Tryz.func74 (by kernel_rfl) rfl #[.pointer (some ⟨g, 0, none⟩), .string (⟨#[116, 114, 117, 101]⟩ : ByteArray)] rfl tc3 ?_; (with_reducible refine (spec_reader_word.calls g t305 t306 (⟨#[116, 114, 117, 101]⟩ : ByteArray) true t308 t309 w0 _ ?side1 ?side2 A90.out).mono ?_); (case side1 => exact tc6); (case side2 => exact tc7); rintro e w94 ⟨rfl, hi, hb, hk⟩; refine ⟨_, rfl, ?_⟩; have n0_ := Aside0.mk (KeepBut.blk hk (g' := gb275) (o := .cells #[.int .i64 0, .int .i64 0, .int .i64 0, .slice none 0 0, .slice none 0 0] 40 (0, 0)) tc26 NB275_0.out (by simp)); have n1_ := Aside0.mk (KeepBut.blk hk (g' := gb276) (o := .cells #[.int .i64 0, .int .i64 s0_1, .int .i64 0, .slice none 0 0, .slice none 0 0] 40 (0, 0)) tc44 NB276_0.out (by simp)); have n2_ := Aside0.mk (KeepBut.trans tc8 hk (.inl rfl)); have n3_ := Aside0.mk (hb); have n4_ := Aside0.mk (hi); clear BK275; clear BK276; clear HK; clear HB; clear HI0; have BK275 := n0_; have BK276 := n1_; have HK := n2_; have HB := n3_; have HI0 := n4_; clear n0_ n1_ n2_ n3_ n4_; (try clear hb); (try clear hb2); (try clear hk); (try clear hi); have hnb95 := NB276_275.out; have hnc95 := NB275_276.out; have hnb96 := NB276_0.out; have hnc96 := NB0_276.out; have hcz97_0 : w94.cell? ⟨gb276, 0, none⟩ = some (.int .i64 0) := (blk_cell BK276.out 0).trans rfl; have hcz97_1 : w94.cell? ⟨gb276, 1, none⟩ = some (.int .i64 s0_1) := (blk_cell BK276.out 1).trans rfl; have hcz97_2 : w94.cell? ⟨gb276, 2, none⟩ = some (.int .i64 0) := (blk_cell BK276.out 2).trans rfl; have hcz97_3 : w94.cell? ⟨gb276, 3, none⟩ = some (.slice none 0 0) := (blk_cell BK276.out 3).trans rfl; have hcz97_4 : w94.cell? ⟨gb276, 4, none⟩ = some (.slice none 0 0) := (blk_cell BK276.out 4).trans rfl; have hfz97_0 := blk_frozen BK276.out 0; have hfz97_1 := blk_frozen BK276.out 1; have hfz97_2 := blk_frozen BK276.out 2; have hfz97_3 := blk_frozen BK276.out 3; have hfz97_4 := blk_frozen BK276.out 4; obtain ⟨HGz98, hgz98⟩ := HI0.out; have hcz98_0 := cellS79_0 HGz98; have hcz98_1 := cellS79_1 HGz98; have hfz98_0 := blk_frozen HGz98 0; have hfz98_1 := blk_frozen HGz98 1; clear HGz98 hgz98; have hnb99 := NB275_0.out; have hnc99 := NB0_275.out; have hcz100_0 : w94.cell? ⟨gb275, 0, none⟩ = some (.int .i64 0) := (blk_cell BK275.out 0).trans rfl; have hcz100_1 : w94.cell? ⟨gb275, 1, none⟩ = some (.int .i64 0) := (blk_cell BK275.out 1).trans rfl; have hcz100_2 : w94.cell? ⟨gb275, 2, none⟩ = some (.int .i64 0) := (blk_cell BK275.out 2).trans rfl; have hcz100_3 : w94.cell? ⟨gb275, 3, none⟩ = some (.slice none 0 0) := (blk_cell BK275.out 3).trans rfl; have hcz100_4 : w94.cell? ⟨gb275, 4, none⟩ = some (.slice none 0 0) := (blk_cell BK275.out 4).trans rfl; have hfz100_0 := blk_frozen BK275.out 0; have hfz100_1 := blk_frozen BK275.out 1; have hfz100_2 := blk_frozen BK275.out 2; have hfz100_3 := blk_frozen BK275.out 3; have hfz100_4 := blk_frozen BK275.out 4))
                    refine bodyPost_ret (results_ct rfl _ _ gb275 40 #[.int .i64 2, .int .i64 s0_1, .int .i64 t309, .slice none 0 0, .slice none 0 0] (0, 0) _ rfl (by (with_reducible repeat (first | refine blk_drewN ?_ _ | refine blk_drew ?_ | refine blk_alloc ?_ _)); refine blk_put (cs := #[.int .i64 2, .int .i64 s0_1, .int .i64 t309, .slice none 0 0, .slice none 0 0]) ?_ 4 _ rfl; (with_reducible repeat (first | refine blk_drewN ?_ _ | refine blk_drew ?_ | refine blk_alloc ?_ _)); refine blk_put (cs := #[.int .i64 2, .int .i64 s0_1, .int .i64 t309, .slice none 0 0, .slice none 0 0]) ?_ 3 _ rfl; (with_reducible repeat (first | refine blk_drewN ?_ _ | refine blk_drew ?_ | refine blk_alloc ?_ _)); refine blk_put (cs := #[.int .i64 2, .int .i64 s0_1, .int .i64 0, .slice none 0 0, .slice none 0 0]) ?_ 2 _ rfl; (with_reducible repeat (first | refine blk_drewN ?_ _ | refine blk_drew ?_ | refine blk_alloc ?_ _)); refine blk_put (cs := #[.int .i64 2, .int .i64 0, .int .i64 0, .slice none 0 0, .slice none 0 0]) ?_ 1 _ rfl; (with_reducible repeat (first | refine blk_drewN ?_ _ | refine blk_drew ?_ | refine blk_alloc ?_ _)); refine blk_put (cs := #[.int .i64 0, .int .i64 0, .int .i64 0, .slice none 0 0, .slice none 0 0]) ?_ 0 _ rfl; (with_reducible repeat (first | refine blk_drewN ?_ _ | refine blk_drew ?_ | refine blk_alloc ?_ _)); refine blk_far ?_ NB275_276.out _; (with_reducible repeat (first | refine blk_drewN ?_ _ | refine blk_drew ?_ | refine blk_alloc ?_ _)); refine blk_far ?_ NB275_276.out _; (with_reducible repeat (first | refine blk_drewN ?_ _ | refine blk_drew ?_ | refine blk_alloc ?_ _)); exact BK275.out) Tryz.underlying40 rfl (by kernel_rfl)) rfl ?_
                    exact ⟨_, _, tc12, tc10, tc10, tc6, tc7, tc8⟩
                  · replace c91 := Bool.eq_false_iff.mpr c91
                    subst c91
                    have H1 : (some (0, s0_1, t309, ([] : List (S84)), ([] : List (S40)), false, t308, t309)) = some (r1, r2, r3, r4, r5, r6, r7, r8) := by rw [if_neg (show ¬ (false = true) by decide)] at H; exact H
                    clear H
                    have H := H1
                    clear H1
                    simp only [Option.some.injEq, Prod.mk.injEq] at H
                    obtain ⟨rfl, rfl, rfl, rfl, rfl, rfl, rfl, rfl⟩ := H
                    go_wp2_with (first | ((with_reducible refine gate_callee (f := 74) rfl ?_); refine goesL_ (some 58) rfl rfl Tryz.func74 (by kernel_rfl) rfl #[.pointer (some ⟨g, 0, none⟩), .string (⟨#[110, 117, 108, 108]⟩ : ByteArray)] rfl tc3 ?_; (with_reducible refine (spec_reader_word.calls g t278 t279 (⟨#[110, 117, 108, 108]⟩ : ByteArray) false t302 t303 w0 _ ?side1 ?side2 A71.out).mono ?_); (case side1 => exact tc6); (case side2 => exact tc7); rintro e w101 ⟨rfl, hi, hb, hk⟩; refine ⟨_, rfl, ?_⟩; have n0_ := Aside0.mk (KeepBut.blk hk (g' := gb275) (o := .cells #[.int .i64 0, .int .i64 0, .int .i64 0, .slice none 0 0, .slice none 0 0] 40 (0, 0)) tc26 NB275_0.out (by simp)); have n1_ := Aside0.mk (KeepBut.blk hk (g' := gb276) (o := .cells #[.int .i64 0, .int .i64 s0_1, .int .i64 0, .slice none 0 0, .slice none 0 0] 40 (0, 0)) tc44 NB276_0.out (by simp)); have n2_ := Aside0.mk (KeepBut.trans tc8 hk (.inl rfl)); have n3_ := Aside0.mk (hb); have n4_ := Aside0.mk (hi); clear BK275; clear BK276; clear HK; clear HB; clear HI0; have BK275 := n0_; have BK276 := n1_; have HK := n2_; have HB := n3_; have HI0 := n4_; clear n0_ n1_ n2_ n3_ n4_; (try clear hb); (try clear hb2); (try clear hk); (try clear hi)) | ((with_reducible refine gate_callee (f := 74) rfl ?_); refine goesL_ (some 62) rfl rfl Tryz.func74 (by kernel_rfl) rfl #[.pointer (some ⟨g, 0, none⟩), .string (⟨#[102, 97, 108, 115, 101]⟩ : ByteArray)] rfl tc3 ?_; (with_reducible refine (spec_reader_word.calls g t302 t303 (⟨#[102, 97, 108, 115, 101]⟩ : ByteArray) false t305 t306 w0 _ ?side1 ?side2 A80.out).mono ?_); (case side1 => exact tc6); (case side2 => exact tc7); rintro e w102 ⟨rfl, hi, hb, hk⟩; refine ⟨_, rfl, ?_⟩; have n0_ := Aside0.mk (KeepBut.blk hk (g' := gb275) (o := .cells #[.int .i64 0, .int .i64 0, .int .i64 0, .slice none 0 0, .slice none 0 0] 40 (0, 0)) tc26 NB275_0.out (by simp)); have n1_ := Aside0.mk (KeepBut.blk hk (g' := gb276) (o := .cells #[.int .i64 0, .int .i64 s0_1, .int .i64 0, .slice none 0 0, .slice none 0 0] 40 (0, 0)) tc44 NB276_0.out (by simp)); have n2_ := Aside0.mk (KeepBut.trans tc8 hk (.inl rfl)); have n3_ := Aside0.mk (hb); have n4_ := Aside0.mk (hi); clear BK275; clear BK276; clear HK; clear HB; clear HI0; have BK275 := n0_; have BK276 := n1_; have HK := n2_; have HB := n3_; have HI0 := n4_; clear n0_ n1_ n2_ n3_ n4_; (try clear hb); (try clear hb2); (try clear hk); (try clear hi)) | ((with_reducible refine gate_callee (f := 74) rfl ?_); refine goesL_ (some 66) rfl rfl Tryz.func74 (by kernel_rfl) rfl #[.pointer (some ⟨g, 0, none⟩), .string (⟨#[116, 114, 117, 101]⟩ : ByteArray)] rfl tc3 ?_; (with_reducible refine (spec_reader_word.calls g t305 t306 (⟨#[116, 114, 117, 101]⟩ : ByteArray) false t308 t309 w0 _ ?side1 ?side2 A90.out).mono ?_); (case side1 => exact tc6); (case side2 => exact tc7); rintro e w103 ⟨rfl, hi, hb, hk⟩; refine ⟨_, rfl, ?_⟩; have n0_ := Aside0.mk (KeepBut.blk hk (g' := gb275) (o := .cells #[.int .i64 0, .int .i64 0, .int .i64 0, .slice none 0 0, .slice none 0 0] 40 (0, 0)) tc26 NB275_0.out (by simp)); have n1_ := Aside0.mk (KeepBut.blk hk (g' := gb276) (o := .cells #[.int .i64 0, .int .i64 s0_1, .int .i64 0, .slice none 0 0, .slice none 0 0] 40 (0, 0)) tc44 NB276_0.out (by simp)); have n2_ := Aside0.mk (KeepBut.trans tc8 hk (.inl rfl)); have n3_ := Aside0.mk (hb); have n4_ := Aside0.mk (hi); clear BK275; clear BK276; clear HK; clear HB; clear HI0; have BK275 := n0_; have BK276 := n1_; have HK := n2_; have HB := n3_; have HI0 := n4_; clear n0_ n1_ n2_ n3_ n4_; (try clear hb); (try clear hb2); (try clear hk); (try clear hi); obtain ⟨HGz104, hgz104⟩ := HI0.out; have hcz104_0 := cellS79_0 HGz104; have hcz104_1 := cellS79_1 HGz104; have hfz104_0 := blk_frozen HGz104 0; have hfz104_1 := blk_frozen HGz104 1; clear HGz104 hgz104; have hnb105 := NB276_275.out; have hnc105 := NB275_276.out; have hnb106 := NB276_0.out; have hnc106 := NB0_276.out; have hcz107_0 : w103.cell? ⟨gb276, 0, none⟩ = some (.int .i64 0) := (blk_cell BK276.out 0).trans rfl; have hcz107_1 : w103.cell? ⟨gb276, 1, none⟩ = some (.int .i64 s0_1) := (blk_cell BK276.out 1).trans rfl; have hcz107_2 : w103.cell? ⟨gb276, 2, none⟩ = some (.int .i64 0) := (blk_cell BK276.out 2).trans rfl; have hcz107_3 : w103.cell? ⟨gb276, 3, none⟩ = some (.slice none 0 0) := (blk_cell BK276.out 3).trans rfl; have hcz107_4 : w103.cell? ⟨gb276, 4, none⟩ = some (.slice none 0 0) := (blk_cell BK276.out 4).trans rfl; have hfz107_0 := blk_frozen BK276.out 0; have hfz107_1 := blk_frozen BK276.out 1; have hfz107_2 := blk_frozen BK276.out 2; have hfz107_3 := blk_frozen BK276.out 3; have hfz107_4 := blk_frozen BK276.out 4; have hnb108 := NB275_0.out; have hnc108 := NB0_275.out; have hcz109_0 : w103.cell? ⟨gb275, 0, none⟩ = some (.int .i64 0) := (blk_cell BK275.out 0).trans rfl; have hcz109_1 : w103.cell? ⟨gb275, 1, none⟩ = some (.int .i64 0) := (blk_cell BK275.out 1).trans rfl; have hcz109_2 : w103.cell? ⟨gb275, 2, none⟩ = some (.int .i64 0) := (blk_cell BK275.out 2).trans rfl; have hcz109_3 : w103.cell? ⟨gb275, 3, none⟩ = some (.slice none 0 0) := (blk_cell BK275.out 3).trans rfl; have hcz109_4 : w103.cell? ⟨gb275, 4, none⟩ = some (.slice none 0 0) := (blk_cell BK275.out 4).trans rfl; have hfz109_0 := blk_frozen BK275.out 0; have hfz109_1 := blk_frozen BK275.out 1; have hfz109_2 := blk_frozen BK275.out 2; have hfz109_3 := blk_frozen BK275.out 3; have hfz109_4 := blk_frozen BK275.out 4))
                    refine bodyPost_ret (results_ct rfl _ _ gb275 40 #[.int .i64 0, .int .i64 s0_1, .int .i64 t309, .slice none 0 0, .slice none 0 0] (0, 0) _ rfl (by (with_reducible repeat (first | refine blk_drewN ?_ _ | refine blk_drew ?_ | refine blk_alloc ?_ _)); refine blk_put (cs := #[.int .i64 0, .int .i64 s0_1, .int .i64 t309, .slice none 0 0, .slice none 0 0]) ?_ 4 _ rfl; (with_reducible repeat (first | refine blk_drewN ?_ _ | refine blk_drew ?_ | refine blk_alloc ?_ _)); refine blk_put (cs := #[.int .i64 0, .int .i64 s0_1, .int .i64 t309, .slice none 0 0, .slice none 0 0]) ?_ 3 _ rfl; (with_reducible repeat (first | refine blk_drewN ?_ _ | refine blk_drew ?_ | refine blk_alloc ?_ _)); refine blk_put (cs := #[.int .i64 0, .int .i64 s0_1, .int .i64 0, .slice none 0 0, .slice none 0 0]) ?_ 2 _ rfl; (with_reducible repeat (first | refine blk_drewN ?_ _ | refine blk_drew ?_ | refine blk_alloc ?_ _)); refine blk_put (cs := #[.int .i64 0, .int .i64 0, .int .i64 0, .slice none 0 0, .slice none 0 0]) ?_ 1 _ rfl; (with_reducible repeat (first | refine blk_drewN ?_ _ | refine blk_drew ?_ | refine blk_alloc ?_ _)); refine blk_put (cs := #[.int .i64 0, .int .i64 0, .int .i64 0, .slice none 0 0, .slice none 0 0]) ?_ 0 _ rfl; (with_reducible repeat (first | refine blk_drewN ?_ _ | refine blk_drew ?_ | refine blk_alloc ?_ _)); refine blk_far ?_ NB275_276.out _; (with_reducible repeat (first | refine blk_drewN ?_ _ | refine blk_drew ?_ | refine blk_alloc ?_ _)); exact BK275.out) Tryz.underlying40 rfl (by kernel_rfl)) rfl ?_
                    exact ⟨_, _, tc12, tc10, tc10, tc6, tc7, tc8⟩
end Go.Proofs.YtookccnmgoocpaaGreatDoor.PTwo
