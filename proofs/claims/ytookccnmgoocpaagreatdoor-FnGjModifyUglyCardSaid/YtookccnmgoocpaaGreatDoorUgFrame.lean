/- The frame of this seat's four rows: a world in which the seventeen listed package-level variables hold what their initialisers lay, so that each row has one input that fits. -/
import Derived.Test.YtookccnmgoocpaaGreatDoorRows
import Derived.WalkKit
import Derived.ProofKit
import Derived.OpenShut
import Derived.Deep.DeepHandedRow
import Derived.Deep.DeepWitnessRowRef
import Derived.Lib.LaidIn
import Derived.Lib.LaidTab
import Derived.Lib.LaidRTab
namespace Go.Proofs.YtookccnmgoocpaaGreatDoor
open Go.ChangeShapes Go.WideShapes Go.ChangeAt Go.RowKit
theorem own : ownKnob Tryz.prog.godebug = none := by kernel_rfl
def u8s (l : List (DataW Unit)) : Array Value := (l.map fun
  | .lit (.int k n) => Value.int k n
  | .lit (.float k n) => Value.float k n
  | _ => undef).toArray
def flat (l : List (DataW Unit)) : Array Value := (l.flatMap fun
  | .agg xs => (u8s xs).toList
  | _ => []).toArray
def parts : DataW Unit → List (DataW Unit)
  | .agg l => l
  | .slice l _ => l
  | _ => []
def pairCells (x : Nat × Nat) : List Value := [Value.int .u64 (x.1 : Int), Value.int .u64 (x.2 : Int)]
/-- The settled world with six blocks more: the rows of the four slices and the structs of the two errors. -/
noncomputable def laidWorld (os : Os) : World :=
  let N := (World.settled Tryz.prog os).heap.size
  let w0 := World.holding Tryz.prog os ⟨#[
    .cells (u8s (parts Rows.laid_internal_strconv_powtab)) 3,
    .cells (u8s (parts Rows.laid_internal_strconv_float64pow10)) 30,
    .cells (u8s (parts Rows.laid_internal_strconv_float32pow10)) 192,
    .cells (Go.Pinned.cheatRows.flatMap fun x => [Value.int .i64 x.1, Value.string ⟨x.2.toArray⟩]).toArray 310,
    .cells #[.string ⟨#[105, 110, 118, 97, 108, 105, 100, 32, 115, 121, 110, 116, 97, 120]⟩] 296,
    .cells #[.string ⟨#[118, 97, 108, 117, 101, 32, 111, 117, 116, 32, 111, 102, 32, 114, 97, 110, 103, 101]⟩] 296], #[], []⟩
  let put (h : Array Obj) (g : Nat) (cs : Array Value) : Array Obj := h.modify g fun
    | .cells _ t frozen => .cells cs t frozen
    | o => o
  let h := put w0.heap 0 (u8s (parts Rows.laid_pub_tetrapla_pub_gjson_hexchars))
  let h := put h 1 (u8s (parts Rows.laid_pub_tetrapla_pub_gjson_vchars))
  let h := put h 2 (Go.Pinned.utf8FirstZ.map fun (z : Nat) => Value.int .u8 (z : Int)).toArray
  let h := put h 3 (flat (parts Rows.laid_unicode_utf8_acceptRanges))
  let h := put h 4 #[.bool true]
  let h := put h 5 #[.iface 294 (.pointer (some ⟨N + 4, 0, none⟩))]
  let h := put h 6 #[.iface 294 (.pointer (some ⟨N + 5, 0, none⟩))]
  let h := put h 7 (u8s (parts Rows.laid_internal_strconv_uint64pow10))
  let h := put h 8 (u8s (parts Rows.laid_internal_strconv_float32info))
  let h := put h 9 (u8s (parts Rows.laid_internal_strconv_float64info))
  let h := put h 10 (Go.Pinned.pow10Rows.flatMap pairCells).toArray
  let h := put h 11 #[.slice (some ⟨N + 3, 0, none⟩) Go.Pinned.cheatRows.length Go.Pinned.cheatRows.length]
  let h := put h 12 #[.slice (some ⟨N + 2, 0, none⟩) 11 11]
  let h := put h 13 #[.slice (some ⟨N, 0, none⟩) 9 9]
  let h := put h 14 #[.slice (some ⟨N + 1, 0, none⟩) 23 23]
  let h := put h 15 (u8s (parts Rows.laid_math_bits_deBruijn32tab))
  let h := put h 16 (u8s (parts Rows.laid_math_bits_deBruijn64tab))
  { w0 with heap := h }
noncomputable abbrev N0 : Nat := (World.settled Tryz.prog default).heap.size
theorem piece0 (os : Os) (args : Array Value) : LaidIn Tryz.prog ((laidWorld os).forCall (fun _ _ => 0) ⟨#[], args, []⟩).memory (Rows.fnGjPipesRow.laid.take 14) [15, 16, 8, 9, 4, 13, N0, 14, N0 + 1, 12, N0 + 2, 7, 3, 6, N0 + 5, 5, N0 + 4, 1, 0] :=
  LaidIn.of_run _ 8 (by kernel_rfl) (by kernel_rfl) (by kernel_rfl) (by kernel_rfl)
theorem piece1 (os : Os) (args : Array Value) : LaidIn Tryz.prog ((laidWorld os).forCall (fun _ _ => 0) ⟨#[], args, []⟩).memory [("internal/strconv.leftcheats", Rows.laid_internal_strconv_leftcheats)] [11, N0 + 3] :=
  LaidIn.of_run _ 8 (by kernel_rfl) (by kernel_rfl) (by kernel_rfl) (by kernel_rfl)
def pairData (x : Nat × Nat) : DataW Unit := .agg [.lit (.int .u64 x.1), .lit (.int .u64 x.2)]
def pairWf (x : Nat × Nat) : Bool := (Lit.int .u64 x.1).wf && (Lit.int .u64 x.2).wf
theorem pairs_length : ∀ (l : List (Nat × Nat)), (l.flatMap pairCells).length = l.length * 2
  | [] => rfl
  | x :: r => by
    have := pairs_length r
    simp [List.flatMap_cons, pairCells] at this ⊢
    omega
theorem pairs_drop : ∀ (l : List (Nat × Nat)) (i : Nat) (h : i < l.length), ((l.flatMap pairCells).drop (i * 2)).take 2 = pairCells l[i]
  | x :: r, 0, _ => by simp [List.flatMap_cons, pairCells]
  | x :: r, i + 1, h => by
    have := pairs_drop r i (by simpa using h)
    rw [List.flatMap_cons, show (i + 1) * 2 = (pairCells x).length + i * 2 by simp [pairCells]; omega, List.drop_append, List.drop_eq_nil_of_le (by omega)]
    simpa using this
theorem struct_pair (w : World) (x : Nat × Nat) (h : pairWf x = true) : DataW.trod (fun _ => ()) Tryz.prog w 0 (fun _ => true) false 2 304 (pairCells x) = some (pairData x, []) := by
  simp only [pairWf, Bool.and_eq_true] at h
  obtain ⟨h1, h2⟩ := h
  have hc : Tryz.prog.cellsOf 304 = 2 := by kernel_rfl
  have hc35 : Tryz.prog.cellsOf 35 = 1 := by kernel_rfl
  unfold DataW.trod
  rw [Tryz.underlying304]
  simp only [pairCells, hc]
  simp [DataW.trod, hc35, Tryz.underlying35, h1, h2, pairData]
theorem array_pairs (w : World) (l : List (Nat × Nat)) (n : Nat) (hn : l.length = n) (t : TypeId) (ht : Tryz.prog.underlying t = some (.array n 304)) (hct : Tryz.prog.cellsOf t = n * 2)
    (hwf : l.all pairWf = true) : DataW.trod (fun _ => ()) Tryz.prog w 0 (fun _ => true) false 3 t (l.flatMap pairCells) = some (.agg (l.map pairData), []) := by
  have hc : Tryz.prog.cellsOf 304 = 2 := by kernel_rfl
  have hlen := pairs_length l
  have helem : ∀ i ∈ List.range n, DataW.trod (fun _ => ()) Tryz.prog w 0 (fun _ => true) false 2 304 (((l.flatMap pairCells).drop (i * 2)).take 2) = some ((fun i => ((pairData (l.getD i (0, 0)) : DataW Unit), ([] : List MemPlace))) i) := by
    intro i hi
    have hi' : i < l.length := by have := List.mem_range.1 hi; omega
    rw [pairs_drop l i hi', struct_pair w _ (List.all_eq_true.1 hwf _ (List.getElem_mem hi'))]
    simp [List.getD, List.getElem?_eq_getElem hi']
  have hdata : ((List.range n).map fun i => (pairData (l.getD i (0, 0)))) = l.map pairData := by
    apply List.ext_getElem (by simp [hn])
    intro i h1 h2
    simp at h2
    simp [List.getD, List.getElem?_eq_getElem h2]
  unfold DataW.trod
  rw [ht]
  simp only [hc, hlen, hct, hn, if_true]
  rw [Lib.mapM_someR _ _ _ helem, ← hdata]
  simp [Function.comp_def]
set_option maxRecDepth 100000 in
theorem laid_pairs (W : World) (name : String) (l : List (Nat × Nat)) (g n : Nat) (t : TypeId) (hg : Tryz.prog.globalNamed name = some g) (hgt : (Tryz.prog.globals[g]?).map (·.type) = some t)
    (hvar : W.heap[g]? = some (.cells (l.flatMap pairCells).toArray t (0, 0))) (hn : l.length = n) (ht : Tryz.prog.underlying t = some (.array n 304)) (hct : Tryz.prog.cellsOf t = n * 2)
    (hwf : l.all pairWf = true) : LaidIn Tryz.prog W [(name, .agg (l.map pairData))] [g] := by
  have hread := array_pairs W l n hn t ht hct hwf
  have hcell : ∀ i v, W.cell? ⟨g, i, none⟩ = some v → ∃ n, v = .int .u64 n := by
    intro i v h
    rw [Lib.cell_of_heap hvar] at h
    have hm : v ∈ l.flatMap pairCells := by
      simp only [List.getElem?_toArray] at h
      exact List.mem_of_getElem? h
    obtain ⟨x, _, hx⟩ := List.mem_flatMap.1 hm
    simp only [pairCells, List.mem_cons, List.not_mem_nil, or_false] at hx
    rcases hx with rfl | rfl
    · exact ⟨_, rfl⟩
    · exact ⟨_, rfl⟩
  have hno : ∀ i u v, W.cell? ⟨g, i, none⟩ ≠ some (.iface u v) := fun i u v h => by
    obtain ⟨n, hn⟩ := hcell i _ h
    cases hn
  have hv : W.var? Tryz.prog name = some (l.flatMap pairCells).toArray := by simp [World.var?, hg, hvar]
  refine LaidIn.one (fuel := 3) (p := []) [g] hg hgt hv hread ?_ ?_ ?_
  · rw [List.append_nil]; exact rowP_nodup _ _
  · rw [List.append_nil]
    intro b off hp
    obtain ⟨i, hi, e'⟩ := MemPlace.mem_row.1 hp
    cases e'
    refine ⟨⟨_, _, hvar⟩, fun u v hc' => ?_⟩
    exact absurd hc' (hno _ _ _)
  · rw [List.append_nil]
    intro x hx
    obtain ⟨i, _, rfl⟩ := MemPlace.mem_row.1 hx
    exact List.mem_cons_self
theorem piece2 (os : Os) (args : Array Value) : LaidIn Tryz.prog ((laidWorld os).forCall (fun _ _ => 0) ⟨#[], args, []⟩).memory [("internal/strconv.pow10Tab", Rows.laid_internal_strconv_pow10Tab)] [10] :=
  laid_pairs _ "internal/strconv.pow10Tab" Go.Pinned.pow10Rows 10 696 305 (by kernel_rfl) (by kernel_rfl) (by kernel_rfl) (by kernel_rfl) Tryz.underlying305 (by kernel_rfl) (by kernel_rfl)
theorem piece3 (os : Os) (args : Array Value) : LaidIn Tryz.prog ((laidWorld os).forCall (fun _ _ => 0) ⟨#[], args, []⟩).memory [("unicode/utf8.first", Rows.laid_unicode_utf8_first)] [2] :=
  LaidIn.of_run _ 8 (by kernel_rfl) (by kernel_rfl) (by kernel_rfl) (by kernel_rfl)
/-- The four pieces joined: all seventeen variables read as they are listed. -/
theorem laid_met (os : Os) (args : Array Value) : laidMet Tryz.prog Rows.fnGjPipesRow.laid ((laidWorld os).forCall (fun _ _ => 0) ⟨#[], args, []⟩).memory :=
  ((((piece0 os args).append (piece1 os args) (by kernel_rfl)).append (piece2 os args) (by kernel_rfl)).append (piece3 os args) (by kernel_rfl)).met
end Go.Proofs.YtookccnmgoocpaaGreatDoor
