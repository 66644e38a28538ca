/- The witness world of this seat's rows has its shape: each package-level variable lies as its type says. The great table of powers of ten is shown by proof, the others by the kernel's reckoning. -/
import Derived.Test.YtookccnmgoocpaaGreatDoorUgFrame
namespace Go.Proofs.YtookccnmgoocpaaGreatDoor
open Go.ChangeShapes Go.WideShapes Go.ChangeAt Go.RowKit
theorem cellTypes305 : Tryz.prog.cellTypes Tryz.prog.depth 305 = some (List.replicate 696 [35, 35]).flatten := by kernel_rfl
theorem flat35 : ∀ (n i : Nat), i < n * 2 → ((List.replicate n [35, 35]).flatten : List TypeId)[i]? = some 35
  | 0, i, h => by omega
  | n + 1, 0, _ => by simp [List.replicate_succ]
  | n + 1, 1, _ => by simp [List.replicate_succ]
  | n + 1, i + 2, h => by
    have := flat35 n i (by omega)
    simpa [List.replicate_succ] using this
theorem flat35_length : ∀ (n : Nat), ((List.replicate n [35, 35]).flatten : List TypeId).length = n * 2
  | 0 => rfl
  | n + 1 => by
    have := flat35_length n
    simp [List.replicate_succ] at this ⊢
    omega
theorem pair_ok (W : World) (x : Nat × Nat) (h : pairWf x = true) (v : Value) (hv : v ∈ pairCells x) : Cell.okRefB Tryz.prog W 35 v = true := by
  simp only [pairWf, Bool.and_eq_true] at h
  obtain ⟨h1, h2⟩ := h
  simp only [pairCells, List.mem_cons, List.not_mem_nil, or_false] at hv
  have e1 : IntKind.u64.min = 0 := rfl
  have e2 : IntKind.u64.max = 18446744073709551615 := rfl
  simp only [Lit.wf, e1, e2, Bool.and_eq_true, decide_eq_true_eq] at h1 h2
  rcases hv with rfl | rfl <;> (unfold Cell.okRefB Cell.okB; rw [Tryz.underlying35]; simp only [e1, e2, Bool.and_eq_true, decide_eq_true_eq]; simp; omega)
theorem row305 (W : World) (l : List (Nat × Nat)) (hl : l.length = 696) (hwf : l.all pairWf = true) : Row.okRefB Tryz.prog W 305 (l.flatMap pairCells).toArray = true := by
  unfold Row.okRefB
  rw [cellTypes305]
  simp only [flat35_length]
  have hlen := pairs_length l
  rw [Bool.and_eq_true, beq_iff_eq, List.all_eq_true]
  refine ⟨by simp only [List.size_toArray, hlen, hl], fun i hi => ?_⟩
  have hi' : i < 696 * 2 := by
    have := List.mem_range.1 hi
    simp only [List.size_toArray, hlen, hl] at this
    omega
  have hi2 : i < (l.flatMap pairCells).length := by omega
  rw [Nat.mod_eq_of_lt hi', flat35 _ _ hi']
  simp only [List.getElem?_toArray, List.getElem?_eq_getElem hi2]
  have hm : (l.flatMap pairCells)[i] ∈ l.flatMap pairCells := List.getElem_mem hi2
  obtain ⟨x, hx, hv⟩ := List.mem_flatMap.1 hm
  exact pair_ok W x (List.all_eq_true.1 hwf _ hx) _ hv
/-- What is asked of one variable. -/
noncomputable def varB (w : World) (g : Nat) : Bool :=
  match (((begin Tryz.prog (fun _ _ => 0) default).world.heap[g]?).bind Obj.row?) with
  | none => true
  | some (zero, t) =>
    match w.heap[g]? with
    | some (.cells cs t' frozen) => decide (t' = t) && decide (frozen = (0, 0)) && cs.size == zero.size && (!Tryz.prog.buildable t || Row.okRefB Tryz.prog w t cs)
    | _ => false
theorem var10 (W : World) (hvar : W.heap[10]? = some (.cells (Go.Pinned.pow10Rows.flatMap pairCells).toArray 305 (0, 0))) : varB W 10 = true := by
  have h0 : (((begin Tryz.prog (fun _ _ => 0) default).world.heap[10]?).bind Obj.row?).map (fun x => (x.1.size, x.2)) = some (1392, 305) := by kernel_rfl
  obtain ⟨⟨zero, t⟩, hz, hz1⟩ := Option.map_eq_some_iff.1 h0
  simp only [Prod.mk.injEq] at hz1
  obtain ⟨hz1, rfl⟩ := hz1
  have hl : Go.Pinned.pow10Rows.length = 696 := by kernel_rfl
  have hlen := pairs_length Go.Pinned.pow10Rows
  have hrow := row305 W Go.Pinned.pow10Rows hl (by kernel_rfl)
  unfold varB
  rw [hz]
  simp only [hvar]
  rw [hrow]
  simp only [List.size_toArray, hlen, hl, hz1, Bool.or_true, Bool.and_true, decide_true]
  rfl
theorem shapedB (os : Os) (args : Array Value) : ((laidWorld os).forCall (fun _ _ => 0) ⟨#[], args, []⟩).variablesRefB Tryz.prog = true := by
  have hn : Tryz.prog.globals.size = 17 := by kernel_rfl
  have hvar : ((laidWorld os).forCall (fun _ _ => 0) ⟨#[], args, []⟩).heap[10]? = some (.cells (Go.Pinned.pow10Rows.flatMap pairCells).toArray 305 (0, 0)) := by kernel_rfl
  have h10 := var10 _ hvar
  have h0 : varB ((laidWorld os).forCall (fun _ _ => 0) ⟨#[], args, []⟩) 0 = true := by kernel_rfl
  have h1 : varB ((laidWorld os).forCall (fun _ _ => 0) ⟨#[], args, []⟩) 1 = true := by kernel_rfl
  have h2 : varB ((laidWorld os).forCall (fun _ _ => 0) ⟨#[], args, []⟩) 2 = true := by kernel_rfl
  have h3 : varB ((laidWorld os).forCall (fun _ _ => 0) ⟨#[], args, []⟩) 3 = true := by kernel_rfl
  have h4 : varB ((laidWorld os).forCall (fun _ _ => 0) ⟨#[], args, []⟩) 4 = true := by kernel_rfl
  have h5 : varB ((laidWorld os).forCall (fun _ _ => 0) ⟨#[], args, []⟩) 5 = true := by kernel_rfl
  have h6 : varB ((laidWorld os).forCall (fun _ _ => 0) ⟨#[], args, []⟩) 6 = true := by kernel_rfl
  have h7 : varB ((laidWorld os).forCall (fun _ _ => 0) ⟨#[], args, []⟩) 7 = true := by kernel_rfl
  have h8 : varB ((laidWorld os).forCall (fun _ _ => 0) ⟨#[], args, []⟩) 8 = true := by kernel_rfl
  have h9 : varB ((laidWorld os).forCall (fun _ _ => 0) ⟨#[], args, []⟩) 9 = true := by kernel_rfl
  have h11 : varB ((laidWorld os).forCall (fun _ _ => 0) ⟨#[], args, []⟩) 11 = true := by kernel_rfl
  have h12 : varB ((laidWorld os).forCall (fun _ _ => 0) ⟨#[], args, []⟩) 12 = true := by kernel_rfl
  have h13 : varB ((laidWorld os).forCall (fun _ _ => 0) ⟨#[], args, []⟩) 13 = true := by kernel_rfl
  have h14 : varB ((laidWorld os).forCall (fun _ _ => 0) ⟨#[], args, []⟩) 14 = true := by kernel_rfl
  have h15 : varB ((laidWorld os).forCall (fun _ _ => 0) ⟨#[], args, []⟩) 15 = true := by kernel_rfl
  have h16 : varB ((laidWorld os).forCall (fun _ _ => 0) ⟨#[], args, []⟩) 16 = true := by kernel_rfl
  generalize (laidWorld os).forCall (fun _ _ => 0) ⟨#[], args, []⟩ = W at *
  show (List.range Tryz.prog.globals.size).all (varB W) = true
  rw [hn, List.all_eq_true]
  intro g hg
  have hg' := List.mem_range.1 hg
  obtain rfl | rfl | rfl | rfl | rfl | rfl | rfl | rfl | rfl | rfl | rfl | rfl | rfl | rfl | rfl | rfl | rfl : g = 0 ∨ g = 1 ∨ g = 2 ∨ g = 3 ∨ g = 4 ∨ g = 5 ∨ g = 6 ∨ g = 7 ∨ g = 8 ∨ g = 9 ∨ g = 10 ∨ g = 11 ∨ g = 12 ∨ g = 13 ∨ g = 14 ∨ g = 15 ∨ g = 16 := by omega
  · exact h0
  · exact h1
  · exact h2
  · exact h3
  · exact h4
  · exact h5
  · exact h6
  · exact h7
  · exact h8
  · exact h9
  · exact h10
  · exact h11
  · exact h12
  · exact h13
  · exact h14
  · exact h15
  · exact h16
theorem rest_same (os : Os) (args : Array Value) : ((((laidWorld os).forCall (fun _ _ => 0) ⟨#[], args, []⟩).heap.toList.drop Tryz.checked.prog.globals.size).take ((begin Tryz.checked.prog (fun _ _ => 0) default).world.heap.size - Tryz.checked.prog.globals.size)) =
      (begin Tryz.checked.prog (fun _ _ => 0) default).world.heap.toList.drop Tryz.checked.prog.globals.size := by kernel_rfl
end Go.Proofs.YtookccnmgoocpaaGreatDoor
