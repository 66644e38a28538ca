/- spec.Bare: what it answers, and its walk. -/
import Derived.Test.YtookccnmgoocpaaGreatDoorUgBareTo
namespace Go.Proofs.YtookccnmgoocpaaGreatDoor.PTwo
open Go.RowKit Go.Proofs.YtookccnmgoocpaaGreatDoorW.PrintWords Go.Proofs.YtookccnmgoocpaaGreatDoorW.PrintLast Go.Proofs.YtookccnmgoocpaaGreatDoorW.PrintMore
set_option linter.unusedVariables false
set_option linter.unusedSimpArgs false
def spec_Bare.f (k : Nat) (a0 : ByteArray) (p0 p1 p2 : Int) (l3 : List S84) (l4 : List S40) : Option ByteArray := (spec_bareTo.f k [] a0 ⟨p0, p1, p2, l3, l4⟩).bind fun o => some (strOfNums o)
set_option maxHeartbeats 8000000 in
set_option maxRecDepth 100000 in
theorem spec_Bare.calls (k : Nat) (a0 : ByteArray) (p0 p1 p2 : Int) (A3 : Option Addr) (c3 : Nat) (l3 : List S84) (A4 : Option Addr) (c4 : Nat) (l4 : List S40) (r : ByteArray) (w : World) (h3 : Kd.C k84 w A3 l3.length l3) (hc3 : l3.length ≤ c3) (h4 : Kd.C k40 w A4 l4.length l4) (hc4 : l4.length ≤ c4) (h : spec_Bare.f k a0 p0 p1 p2 l3 l4 = some r) :
    Calls Tryz.prog 24 #[.string a0, .agg #[.int .i64 p0, .int .i64 p1, .int .i64 p2, .slice A3 l3.length c3, .slice A4 l4.length c4]] w fun e w' => e = .returned (.string r) ∧ Below w.heap.size w w' := by
  unfold spec_Bare.f at h
  replace h := Option.bind_eq_some_iff.mp h
  obtain ⟨o, A0, h⟩ := h
  obtain rfl := Option.some.inj h
  have A := Aside0.mk A0
  have HR3 := Aside0.mk h3
  have HR4 := Aside0.mk h4
  have hu40 := Tryz.underlying40
  clear A0 h h3 h4
  go_enter Tryz.func24, Tryz.ntmps24
  go_wp2_with (first | ((with_reducible refine gate_dst (N := 3) rfl ?_); refine box_event ?hg (N := 3) ?hd (cs := #[.int .i64 p0, .int .i64 p1, .int .i64 p2, .slice A3 l3.length c3, .slice A4 l4.length c4]) (t := 40) ?hr ?_; (case hd => rfl); (case hg => rfl); (case hr => first | (go_simp; done) | (go_simp; rfl)); intro gb hg wb hbox hb; have HB := Aside0.mk hb; have HG := Aside0.mk hbox; clear hbox hb hg; have hcz0 := (blk_cell HG.out 0).trans (show _ = some (Value.int .i64 p0) from rfl); have hcz1 := (blk_cell HG.out 1).trans (show _ = some (Value.int .i64 p1) from rfl); have hcz2 := (blk_cell HG.out 2).trans (show _ = some (Value.int .i64 p2) from rfl); have hcz3 := (blk_cell HG.out 3).trans (show _ = some (Value.slice A3 l3.length c3) from rfl); have hcz4 := (blk_cell HG.out 4).trans (show _ = some (Value.slice A4 l4.length c4) from rfl)))
  refine (spec_bareTo.calls k _ [] a0 p0 p1 p2 A3 c3 l3 A4 c4 l4 o w wb HB.out (Kd.R_nil _ _ _ _ _) HR3.out hc3 HR4.out hc4 A.out).mono ?_
  rintro e w' ⟨v, rfl, ho, hb, hkt⟩
  have HO := Aside0.mk ho
  have HB2 := Aside0.mk hb
  have hcv := own_string (P := Tryz.prog) Tryz.underlying74 Tryz.underlying5 Tryz.underlying9 (Kd.own_of_R HO.out)
  clear ho hb hkt
  go_wp2
  go_ret
  exact ⟨by first | rfl | (simp [results, Tryz.results24, go_sem]; done), HB2.out⟩
end Go.Proofs.YtookccnmgoocpaaGreatDoor.PTwo
