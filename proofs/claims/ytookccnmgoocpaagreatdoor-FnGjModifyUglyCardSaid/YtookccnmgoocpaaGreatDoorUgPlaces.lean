/- spec.Places: what it answers, out of what the reader of a value and the reader of blanks answer. -/
import Derived.Test.YtookccnmgoocpaaGreatDoorUgTie2
namespace Go.Proofs.YtookccnmgoocpaaGreatDoor.PTwo
open Go.RowKit Go.Proofs.YtookccnmgoocpaaGreatDoorW.PrintWords Go.Proofs.YtookccnmgoocpaaGreatDoorW.PrintLast Go.Proofs.YtookccnmgoocpaaGreatDoorW.PrintMore
attribute [local go_sem] max2_int min2_int max_two min_two max_three min_three max_four min_four   -- for this text's walks alone
set_option linter.unusedVariables false
set_option linter.unusedSimpArgs false
/-- Blanks, a value, blanks, and nothing behind. -/
noncomputable def spec_Places.f (k : Nat) (a0 : ByteArray) : Option (Int × Int × Int × (List S84) × (List S40) × Bool) :=
  (spec_reader_blanks.f k a0 0).bind fun b => (spec_reader_valueT.f k b.1 b.2).bind fun v =>
    if v.2.2.2.2.2.1 = true then (spec_reader_blanks.f k v.2.2.2.2.2.2.1 v.2.2.2.2.2.2.2).bind fun c =>
      if c.2 = (a0.size : Int) then some (v.1, v.2.1, v.2.2.1, v.2.2.2.1, v.2.2.2.2.1, true) else some (0, 0, 0, [], [], false)
    else some (0, 0, 0, [], [], false)
theorem keep_below {w w1 : World} {g : Nat} (h : KeepBut w w1 g none) (k : Nat) (hk : k < w.heap.size) (hg : k ≠ g) : w1.heap[k]? = w.heap[k]? := h.2 k hk hg (by simp)
/-- Five stores into a block of five cells. -/
theorem put5 {W : World} {g : Nat} {t : TypeId} {a0 a1 a2 a3 a4 : Value} (h : W.heap[g]? = some (.cells #[a0, a1, a2, a3, a4] t (0, 0))) (u0 u1 u2 u3 u4 : Value) :
    (((((W.setCell ⟨g, 0, none⟩ u0).setCell ⟨g, 1, none⟩ u1).setCell ⟨g, 2, none⟩ u2).setCell ⟨g, 3, none⟩ u3).setCell ⟨g, 4, none⟩ u4).heap[g]? = some (.cells #[u0, u1, u2, u3, u4] t (0, 0)) :=
  blk_put (cs := #[u0, u1, u2, u3, a4]) (blk_put (cs := #[u0, u1, u2, a3, a4]) (blk_put (cs := #[u0, u1, a2, a3, a4]) (blk_put (cs := #[u0, a1, a2, a3, a4]) (blk_put h 0 u0 rfl) 1 u1 rfl) 2 u2 rfl) 3 u3 rfl) 4 u4 rfl
theorem below5 {w W : World} {g : Nat} (h : Below w.heap.size w W) (hg : w.heap.size ≤ g) (u0 u1 u2 u3 u4 : Value) :
    Below w.heap.size w (((((W.setCell ⟨g, 0, none⟩ u0).setCell ⟨g, 1, none⟩ u1).setCell ⟨g, 2, none⟩ u2).setCell ⟨g, 3, none⟩ u3).setCell ⟨g, 4, none⟩ u4) :=
  below_set (below_set (below_set (below_set (below_set h hg) hg) hg) hg) hg
theorem far5 {W : World} {g k : Nat} (hk : k ≠ g) (u0 u1 u2 u3 u4 : Value) :
    (((((W.setCell ⟨g, 0, none⟩ u0).setCell ⟨g, 1, none⟩ u1).setCell ⟨g, 2, none⟩ u2).setCell ⟨g, 3, none⟩ u3).setCell ⟨g, 4, none⟩ u4).heap[k]? = W.heap[k]? := by
  rw [Below.heap_setCell _ _ _ _ hk, Below.heap_setCell _ _ _ _ hk, Below.heap_setCell _ _ _ _ hk, Below.heap_setCell _ _ _ _ hk, Below.heap_setCell _ _ _ _ hk]
set_option maxRecDepth 100000 in
set_option maxHeartbeats 1000000 in
theorem spec_Places.calls (k : Nat) (a0 : ByteArray) (r1 r2 r3 : Int) (r4 : List S84) (r5 : List S40) (r6 : Bool) (w : World) (h : spec_Places.f k a0 = some (r1, r2, r3, r4, r5, r6)) :
    Calls Tryz.prog 22 #[.string a0] w fun e w' => ∃ v3_ v4_ : Value, e = .returned (.tuple #[.agg #[.int .i64 r1, .int .i64 r2, .int .i64 r3, v3_, v4_], .bool r6]) ∧ Kd.R k84 84 w' w.heap.size (fun _ => True) v3_ r4 ∧ Kd.R k40 40 w' w.heap.size (fun k_ => some k_ ≠ (v3_ : Value).ownBlock) v4_ r5 ∧ Below w.heap.size w w' := by
  unfold spec_Places.f at h
  replace h := Option.bind_eq_some_iff.mp h
  obtain ⟨⟨t1, t2⟩, A1, h⟩ := h
  replace h := Option.bind_eq_some_iff.mp h
  obtain ⟨⟨q1, q2, q3, q4, q5, q6, q7, q8⟩, A2, h⟩ := h
  simp only at h A1 A2
  have HA1 := Aside0.mk A1
  have HA2 := Aside0.mk A2
  clear A1 A2
  have hz2 : (((w.alloc (.cells #[.int .i64 0, .int .i64 0, .int .i64 0, .slice none 0 0, .slice none 0 0] 40)).alloc (.cells #[.string a0, .int .i64 0] 79)).heap[w.heap.size]? = some (.cells #[.int .i64 0, .int .i64 0, .int .i64 0, .slice none 0 0, .slice none 0 0] 40 (0, 0))) := blk_alloc (blk_new _ _) _
  have hi2 : IsS79 w ((w.alloc (.cells #[.int .i64 0, .int .i64 0, .int .i64 0, .slice none 0 0, .slice none 0 0] 40)).alloc (.cells #[.string a0, .int .i64 0] 79)) (w.heap.size + 1) a0 0 := ⟨by have := blk_new (w.alloc (.cells #[.int .i64 0, .int .i64 0, .int .i64 0, .slice none 0 0, .slice none 0 0] 40)) (.cells #[.string a0, .int .i64 0] 79); rwa [World.size_alloc] at this, by omega⟩
  have hb2 : Below w.heap.size w ((w.alloc (.cells #[.int .i64 0, .int .i64 0, .int .i64 0, .slice none 0 0, .slice none 0 0] 40)).alloc (.cells #[.string a0, .int .i64 0] 79)) := below_alloc (below_alloc (Below.refl _ _) _) _
  have hs2 : ((w.alloc (.cells #[.int .i64 0, .int .i64 0, .int .i64 0, .slice none 0 0, .slice none 0 0] 40)).alloc (.cells #[.string a0, .int .i64 0] 79)).heap.size = w.heap.size + 2 := by simp
  have HZ2 := Aside0.mk hz2
  have HI2 := Aside0.mk hi2
  have HB2 := Aside0.mk hb2
  have HS2 := Aside0.mk hs2
  clear hz2 hi2 hb2 hs2
  cases q6 with
  | false =>
    have h' : (some (0, 0, 0, [], [], false) : Option (Int × Int × Int × (List S84) × (List S40) × Bool)) = some (r1, r2, r3, r4, r5, r6) := h
    clear h
    simp only [Option.some.injEq, Prod.mk.injEq] at h'
    obtain ⟨rfl, rfl, rfl, rfl, rfl, rfl⟩ := h'
    go_enter Tryz.func22, Tryz.ntmps22
    go_wp2_with fail
    refine (spec_reader_blanks.calls k _ a0 0 t1 t2 w _ HI2.out HB2.out HA1.out).mono ?_
    rintro e w3 ⟨rfl, hi3, hb3, hk3⟩
    have hz3 := keep_below hk3 w.heap.size (by rw [HS2.out]; omega) (by omega)
    rw [HZ2.out] at hz3
    have HI3 := Aside0.mk hi3
    have HB3 := Aside0.mk hb3
    have HZ3 := Aside0.mk hz3
    clear hi3 hb3 hk3 hz3
    go_wp2_with fail
    refine (spec_reader_valueT.calls k _ t1 t2 q1 q2 q3 q4 q5 false q7 q8 w _ HI3.out HB3.out HA2.out).mono ?_
    rintro e w4 ⟨v3, v4, rfl, ho4, hp4, hi4, hb4, hk4⟩
    have hz4 := keep_below hk4 w.heap.size (blk_lt HZ3.out) (by omega)
    rw [HZ3.out] at hz4
    have c0 : w4.cell? ⟨w.heap.size, 0, none⟩ = some (.int .i64 0) := blk_cell hz4 0
    have c1 : w4.cell? ⟨w.heap.size, 1, none⟩ = some (.int .i64 0) := blk_cell hz4 1
    have c2 : w4.cell? ⟨w.heap.size, 2, none⟩ = some (.int .i64 0) := blk_cell hz4 2
    have c3 : w4.cell? ⟨w.heap.size, 3, none⟩ = some (.slice none 0 0) := blk_cell hz4 3
    have c4 : w4.cell? ⟨w.heap.size, 4, none⟩ = some (.slice none 0 0) := blk_cell hz4 4
    have f0 := blk_frozen hz4 0
    have f1 := blk_frozen hz4 1
    have f2 := blk_frozen hz4 2
    have f3 := blk_frozen hz4 3
    have f4 := blk_frozen hz4 4
    obtain ⟨A3, n3, rfl⟩ := Kd.R_slice ho4
    obtain ⟨A4, n4, rfl⟩ := Kd.R_slice hp4
    have hl4 := blk_lt hz4
    have HB4 := Aside0.mk hb4
    have HO4 := Aside0.mk ho4
    have HZ4 := Aside0.mk hz4
    clear hz4 hi4 hb4 hk4 hp4 ho4
    go_wp2_with fail
    refine bodyPost_ret (results_ct rfl _ _ w.heap.size 40 #[.int .i64 0, .int .i64 0, .int .i64 0, .slice none 0 0, .slice none 0 0] (0, 0) _ rfl (blk_alloc (put5 HZ4.out _ _ _ _ _) _) Tryz.underlying40 rfl (by kernel_rfl)) rfl ⟨_, _, rfl, Kd.R_nil _ _ _ _ _, Kd.R_nil _ _ _ _ _, below_alloc (below5 HB4.out (Nat.le_refl _) _ _ _ _ _) _⟩
  | true =>
    have h' : ((spec_reader_blanks.f k q7 q8).bind fun c => if c.2 = (a0.size : Int) then some (q1, q2, q3, q4, q5, true) else some (0, 0, 0, [], [], false)) = some (r1, r2, r3, r4, r5, r6) := h
    clear h
    replace h' := Option.bind_eq_some_iff.mp h'
    obtain ⟨⟨u1, u2⟩, A3, h'⟩ := h'
    simp only at h'
    have HA3 := Aside0.mk A3
    clear A3
    have H' := Aside0.mk h'
    clear h'
    go_enter Tryz.func22, Tryz.ntmps22
    go_wp2_with fail
    refine (spec_reader_blanks.calls k _ a0 0 t1 t2 w _ HI2.out HB2.out HA1.out).mono ?_
    rintro e w3 ⟨rfl, hi3, hb3, hk3⟩
    have hz3 := keep_below hk3 w.heap.size (by rw [HS2.out]; omega) (by omega)
    rw [HZ2.out] at hz3
    have HI3 := Aside0.mk hi3
    have HB3 := Aside0.mk hb3
    have HZ3 := Aside0.mk hz3
    clear hi3 hb3 hk3 hz3
    go_wp2_with fail
    refine (spec_reader_valueT.calls k _ t1 t2 q1 q2 q3 q4 q5 true q7 q8 w _ HI3.out HB3.out HA2.out).mono ?_
    rintro e w4 ⟨v3, v4, rfl, ho4, hp4, hi4, hb4, hk4⟩
    have hz4 := keep_below hk4 w.heap.size (blk_lt HZ3.out) (by omega)
    rw [HZ3.out] at hz4
    have c0 : w4.cell? ⟨w.heap.size, 0, none⟩ = some (.int .i64 0) := blk_cell hz4 0
    have c1 : w4.cell? ⟨w.heap.size, 1, none⟩ = some (.int .i64 0) := blk_cell hz4 1
    have c2 : w4.cell? ⟨w.heap.size, 2, none⟩ = some (.int .i64 0) := blk_cell hz4 2
    have c3 : w4.cell? ⟨w.heap.size, 3, none⟩ = some (.slice none 0 0) := blk_cell hz4 3
    have c4 : w4.cell? ⟨w.heap.size, 4, none⟩ = some (.slice none 0 0) := blk_cell hz4 4
    have f0 := blk_frozen hz4 0
    have f1 := blk_frozen hz4 1
    have f2 := blk_frozen hz4 2
    have f3 := blk_frozen hz4 3
    have f4 := blk_frozen hz4 4
    obtain ⟨A3, n3, rfl⟩ := Kd.R_slice ho4
    obtain ⟨A4, n4, rfl⟩ := Kd.R_slice hp4
    have hl4 := blk_lt hz4
    have HI4 := Aside0.mk hi4
    have HB4 := Aside0.mk hb4
    have HO4 := Aside0.mk ho4
    have HP4 := Aside0.mk hp4
    have HZ4 := Aside0.mk hz4
    have HL34 := Aside0.mk (keep_size hk4)
    have HL3 := Aside0.mk (blk_lt HZ3.out)
    clear hz4 hi4 hb4 hk4 hp4 ho4 c0 c1 c2 c3 c4 f0 f1 f2 f3 f4
    go_wp2_with fail
    refine (spec_reader_blanks.calls k _ q7 q8 u1 u2 w _ ?s1 ?s2 HA3.out).mono ?_
    case s1 => exact IsS79.alloc HI4.out _
    case s2 => exact below_alloc HB4.out _
    rintro e w5 ⟨rfl, hi5, hb5, hk5⟩
    have hz5 := keep_below hk5 w.heap.size (by rw [World.size_alloc]; have := blk_lt HZ4.out; omega) (by omega)
    rw [blk_alloc HZ4.out _] at hz5
    have hne : w4.heap.size ≠ w.heap.size + 1 := by have := HL34.out; have := blk_lt HI4.out.1; omega
    have hp5 := keep_below hk5 w4.heap.size (by rw [World.size_alloc]; omega) hne
    rw [blk_new] at hp5
    have hl5 : w4.heap.size < w5.heap.size := blk_lt hp5
    have hw4 : w.heap.size < w4.heap.size := blk_lt HZ4.out
    have hmv : ∀ k_, k_ < w4.heap.size → k_ ≠ w.heap.size + 1 → w5.heap[k_]? = w4.heap[k_]? := fun k_ h1 h2 => (keep_below hk5 k_ (by rw [World.size_alloc]; omega) h2).trans (Below.heap_alloc _ _ _ h1)
    have hfar : ∀ k_, w3.heap.size ≤ k_ → k_ ≠ w.heap.size + 1 ∧ k_ ≠ w.heap.size := fun k_ h1 => by have := HL3.out; have := blk_lt HI3.out.1; omega
    have ho5 : Kd.R k84 84 w5 w3.heap.size (fun k_ => True ∧ w3.heap.size ≤ k_ ∧ k_ < w4.heap.size ∧ ∃ q, q ∈ 84 :: k84.E ∧ ∃ cells, w4.heap[k_]? = some (.cells cells q (0, 0))) (.slice A3 q4.length n3) q4 :=
      Kd.R_move (Kd.R_bound HO4.out) (fun k_ hk => hmv k_ hk.2.2.1 (hfar k_ hk.2.1).1)
    have hp6 : Kd.R k40 40 w5 w3.heap.size (fun k_ => some k_ ≠ (Value.slice A3 q4.length n3).ownBlock ∧ w3.heap.size ≤ k_ ∧ k_ < w4.heap.size ∧ ∃ q, q ∈ 40 :: k40.E ∧ ∃ cells, w4.heap[k_]? = some (.cells cells q (0, 0))) (.slice A4 q5.length n4) q5 :=
      Kd.R_move (Kd.R_bound HP4.out) (fun k_ hk => hmv k_ hk.2.2.1 (hfar k_ hk.2.1).1)
    have c0 : w5.cell? ⟨w.heap.size + 1, 1, none⟩ = some (.int .i64 u2) := blk_cell hi5.1 1
    have p0 : w5.cell? ⟨w4.heap.size, 0, none⟩ = some (.int .i64 q1) := blk_cell hp5 0
    have p1 : w5.cell? ⟨w4.heap.size, 1, none⟩ = some (.int .i64 q2) := blk_cell hp5 1
    have p2 : w5.cell? ⟨w4.heap.size, 2, none⟩ = some (.int .i64 q3) := blk_cell hp5 2
    have p3 : w5.cell? ⟨w4.heap.size, 3, none⟩ = some (.slice A3 q4.length n3) := blk_cell hp5 3
    have p4 : w5.cell? ⟨w4.heap.size, 4, none⟩ = some (.slice A4 q5.length n4) := blk_cell hp5 4
    have z0 : w5.cell? ⟨w.heap.size, 0, none⟩ = some (.int .i64 0) := blk_cell hz5 0
    have z1 : w5.cell? ⟨w.heap.size, 1, none⟩ = some (.int .i64 0) := blk_cell hz5 1
    have z2 : w5.cell? ⟨w.heap.size, 2, none⟩ = some (.int .i64 0) := blk_cell hz5 2
    have z3 : w5.cell? ⟨w.heap.size, 3, none⟩ = some (.slice none 0 0) := blk_cell hz5 3
    have z4 : w5.cell? ⟨w.heap.size, 4, none⟩ = some (.slice none 0 0) := blk_cell hz5 4
    have f0 := blk_frozen hz5 0
    have f1 := blk_frozen hz5 1
    have f2 := blk_frozen hz5 2
    have f3 := blk_frozen hz5 3
    have f4 := blk_frozen hz5 4
    have HZ5 := Aside0.mk hz5
    have HB5 := Aside0.mk hb5
    have HO5 := Aside0.mk ho5
    have HP5 := Aside0.mk hp6
    have HF := Aside0.mk hfar
    have HL43 := Aside0.mk HL34.out
    clear hz5 hb5 ho5 hp6 hi5 hk5 hp5 hne hmv hfar
    by_cases hu : u2 = (a0.size : Int)
    · rw [if_pos hu] at H'
      have h' := H'.out
      clear H'
      simp only [Option.some.injEq, Prod.mk.injEq] at h'
      obtain ⟨rfl, rfl, rfl, rfl, rfl, rfl⟩ := h'
      have e0 : (u2 != (a0.size : Int)) = false := by rw [hu]; simp
      clear hu
      go_wp2_with fail
      refine bodyPost_ret (results_ct rfl _ _ w.heap.size 40 #[.int .i64 q1, .int .i64 q2, .int .i64 q3, .slice A3 q4.length n3, .slice A4 q5.length n4] (0, 0) _ rfl (put5 HZ5.out _ _ _ _ _) Tryz.underlying40 rfl (by kernel_rfl)) rfl ⟨_, _, rfl, ?_, ?_, below5 HB5.out (Nat.le_refl _) _ _ _ _ _⟩
      · exact Kd.R_lower (Kd.R_mono (Kd.R_move HO5.out (fun k_ hk => far5 (HF.out k_ hk.2.1).2 _ _ _ _ _)) (fun _ _ => trivial)) (Nat.le_of_lt HL3.out)
      · exact Kd.R_lower (Kd.R_mono (Kd.R_move HP5.out (fun k_ hk => far5 (HF.out k_ hk.2.1).2 _ _ _ _ _)) (fun _ hk => hk.1)) (Nat.le_of_lt HL3.out)
    · rw [if_neg hu] at H'
      have h' := H'.out
      clear H'
      simp only [Option.some.injEq, Prod.mk.injEq] at h'
      obtain ⟨rfl, rfl, rfl, rfl, rfl, rfl⟩ := h'
      have e0 : (u2 != (a0.size : Int)) = true := by rw [bne_iff_ne]; exact hu
      clear hu
      go_wp2_with fail
      refine bodyPost_ret (results_ct rfl _ _ w.heap.size 40 #[.int .i64 0, .int .i64 0, .int .i64 0, .slice none 0 0, .slice none 0 0] (0, 0) _ rfl (put5 HZ5.out _ _ _ _ _) Tryz.underlying40 rfl (by kernel_rfl)) rfl ⟨_, _, rfl, Kd.R_nil _ _ _ _ _, Kd.R_nil _ _ _ _ _, below5 HB5.out (Nat.le_refl _) _ _ _ _ _⟩
end Go.Proofs.YtookccnmgoocpaaGreatDoor.PTwo
