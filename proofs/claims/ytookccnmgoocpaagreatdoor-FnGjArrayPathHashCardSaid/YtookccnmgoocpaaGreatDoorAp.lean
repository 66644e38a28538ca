/- The walks for the statement on the path '#': parseArrayPath on the paths '#', '#.rest' and '#|rest', and the functions of the law around it. -/
import Derived.Test.YtookccnmgoocpaaGreatDoorProg
import Derived.WalkKit
import Derived.WalkSpells
import Derived.WalkLawsBesides
namespace Go.Proofs.YtookccnmgoocpaaGreatDoor.Ap
open Go.RowKit

/-- It returns a bool, and the world is as it was. -/
def SomeBool (w : World) (e : Ending) (w' : World) : Prop := ∃ b : Bool, e = .returned (.bool b) ∧ w = w'

set_option maxRecDepth 100000 in
set_option maxHeartbeats 1000000 in
theorem word_any (s : ByteArray) (w : World) (hs : s.size ≤ 9223372036854775807) : Calls Tryz.prog 17 #[.string s] w (SomeBool w) := by
  go_enter Tryz.func17, Tryz.ntmps17
  go_wp2_with fail
  go_loop [3] (fun i => ∃ k : Nat, k ≤ s.size ∧ i = .int .i64 k) (fun i => s.size - (intOf i).toNat)
  case atStart => exact ⟨0, Nat.zero_le _, rfl⟩
  case round =>
    obtain ⟨k, hk, rfl⟩ := hrel
    by_cases hlt : k < s.size
    · go_wp2_with fail
      all_goals first
        | (go_ret; exact ⟨_, rfl, rfl⟩)
        | (go_round
           case rel => exact ⟨k + 1, by omega, by go_num⟩
           case measure => simp [intOf]; omega)
    · go_wp2_with fail
      go_ret
      exact ⟨_, rfl, rfl⟩

set_option maxRecDepth 100000 in
set_option maxHeartbeats 400000 in
theorem parse_hash (w : World) : Calls Tryz.prog 67 #[.string ⟨#[35]⟩] w fun e w' => e = .returned (.agg #[.string ⟨#[35]⟩, .string ⟨#[]⟩, .string ⟨#[]⟩, .bool false, .bool false, .bool false, .bool true, .string ⟨#[]⟩, .bool false, .bool false, .string ⟨#[]⟩, .string ⟨#[]⟩, .string ⟨#[]⟩]) ∧ ∃ c, w' = w.alloc (.cells c 110) := by
  go_enter Tryz.func67, Tryz.ntmps67
  go_wp2_with fail
  refine wp_loop_rounds 2 ?_
  rw [rounds_succ]
  go_wp2_with fail
  rw [rounds_succ]
  go_wp2_with fail
  refine bodyPost_ret (v := .agg #[.string ⟨#[35]⟩, .string ⟨#[]⟩, .string ⟨#[]⟩, .bool false, .bool false, .bool false, .bool true, .string ⟨#[]⟩, .bool false, .bool false, .string ⟨#[]⟩, .string ⟨#[]⟩, .string ⟨#[]⟩]) (by simp [results, Tryz.results67, go_sem]) rfl ⟨rfl, _, rfl⟩

set_option maxRecDepth 100000 in
set_option maxHeartbeats 400000 in
theorem door_hash (w : World) : Calls Tryz.prog 40 #[.string ⟨#[35]⟩] w fun e w' => e = .returned (.agg #[.string ⟨#[35]⟩, .string ⟨#[]⟩, .string ⟨#[]⟩, .string ⟨#[]⟩, .string ⟨#[]⟩, .string ⟨#[]⟩, .string ⟨#[]⟩, .bool false, .bool false, .bool false, .bool true, .bool false, .bool false]) ∧ ∃ c c1 c2, w' = ((w.alloc (.cells c 76)).alloc (.cells c1 110)).alloc (.cells c2 110) := by
  go_enter Tryz.func40, Tryz.ntmps40
  go_wp2_with (go_at_call 67; refine (parse_hash _ ).mono ?_; rintro e w1 ⟨rfl, c, rfl⟩)
  refine bodyPost_ret (v := .agg #[.string ⟨#[35]⟩, .string ⟨#[]⟩, .string ⟨#[]⟩, .string ⟨#[]⟩, .string ⟨#[]⟩, .string ⟨#[]⟩, .string ⟨#[]⟩, .bool false, .bool false, .bool false, .bool true, .bool false, .bool false]) (by simp [results, Tryz.results40, go_sem]) rfl ⟨rfl, _, _, _, rfl⟩

set_option maxRecDepth 100000 in
set_option maxHeartbeats 400000 in
theorem impl_hash (w : World) : Calls Tryz.prog 18 #[.string ⟨#[35]⟩] w fun e w' => e = .returned (.agg #[.string ⟨#[35]⟩, .string ⟨#[]⟩, .string ⟨#[]⟩, .string ⟨#[]⟩, .string ⟨#[]⟩, .string ⟨#[]⟩, .string ⟨#[]⟩, .bool false, .bool false, .bool false, .bool true, .bool false, .bool false]) ∧ ∃ c c1 c2 c3, w' = (((w.alloc (.cells c 51)).alloc (.cells c1 76)).alloc (.cells c2 110)).alloc (.cells c3 110) := by
  go_enter Tryz.func18, Tryz.ntmps18
  go_wp2_with (go_at_call 40; refine (door_hash _ ).mono ?_; rintro e w1 ⟨rfl, c, c1, c2, rfl⟩)
  refine bodyPost_ret (v := .agg #[.string ⟨#[35]⟩, .string ⟨#[]⟩, .string ⟨#[]⟩, .string ⟨#[]⟩, .string ⟨#[]⟩, .string ⟨#[]⟩, .string ⟨#[]⟩, .bool false, .bool false, .bool false, .bool true, .bool false, .bool false]) (by simp [results, Tryz.results18, go_sem]) rfl ⟨rfl, _, _, _, _, rfl⟩

set_option maxRecDepth 100000 in
set_option maxHeartbeats 400000 in
theorem parse_dot (p : ByteArray) (w : World) (hm : p.size ≤ 9223372036854775807) (hp : 2 ≤ p.size) (h0 : ((p[0].toNat : Int) == 35) = true) (h1 : ((p[1].toNat : Int) == 46) = true) : Calls Tryz.prog 67 #[.string p] w fun e w' => e = .returned (.agg #[.string (p.extract 0 1), .string (p.extract 2 p.size), .string ⟨#[]⟩, .bool false, .bool true, .bool true, .bool true, .string (p.extract 2 p.size), .bool false, .bool false, .string ⟨#[]⟩, .string ⟨#[]⟩, .string ⟨#[]⟩]) ∧ ∃ c, w' = w.alloc (.cells c 110) := by
  go_enter Tryz.func67, Tryz.ntmps67
  go_wp2_with fail
  refine wp_loop_rounds 2 ?_
  rw [rounds_succ]
  go_wp2_with fail
  rw [rounds_succ]
  go_wp2_with fail
  refine bodyPost_ret (v := .agg #[.string (p.extract 0 1), .string (p.extract 2 p.size), .string ⟨#[]⟩, .bool false, .bool true, .bool true, .bool true, .string (p.extract 2 p.size), .bool false, .bool false, .string ⟨#[]⟩, .string ⟨#[]⟩, .string ⟨#[]⟩]) (by simp [results, Tryz.results67, go_sem]) rfl ⟨rfl, _, rfl⟩

set_option maxRecDepth 100000 in
set_option maxHeartbeats 400000 in
theorem door_dot (p : ByteArray) (w : World) (hm : p.size ≤ 9223372036854775807) (hp : 2 ≤ p.size) (h0 : ((p[0].toNat : Int) == 35) = true) (h1 : ((p[1].toNat : Int) == 46) = true) : Calls Tryz.prog 40 #[.string p] w fun e w' => e = .returned (.agg #[.string (p.extract 0 1), .string (p.extract 2 p.size), .string ⟨#[]⟩, .string (p.extract 2 p.size), .string ⟨#[]⟩, .string ⟨#[]⟩, .string ⟨#[]⟩, .bool false, .bool true, .bool true, .bool true, .bool false, .bool false]) ∧ ∃ c c1 c2, w' = ((w.alloc (.cells c 76)).alloc (.cells c1 110)).alloc (.cells c2 110) := by
  go_enter Tryz.func40, Tryz.ntmps40
  go_wp2_with (go_at_call 67; refine (parse_dot p _ hm hp h0 h1).mono ?_; rintro e w1 ⟨rfl, c, rfl⟩)
  refine bodyPost_ret (v := .agg #[.string (p.extract 0 1), .string (p.extract 2 p.size), .string ⟨#[]⟩, .string (p.extract 2 p.size), .string ⟨#[]⟩, .string ⟨#[]⟩, .string ⟨#[]⟩, .bool false, .bool true, .bool true, .bool true, .bool false, .bool false]) (by simp [results, Tryz.results40, go_sem]) rfl ⟨rfl, _, _, _, rfl⟩

set_option maxRecDepth 100000 in
set_option maxHeartbeats 400000 in
theorem impl_dot (p : ByteArray) (w : World) (hm : p.size ≤ 9223372036854775807) (hp : 2 ≤ p.size) (h0 : ((p[0].toNat : Int) == 35) = true) (h1 : ((p[1].toNat : Int) == 46) = true) : Calls Tryz.prog 18 #[.string p] w fun e w' => e = .returned (.agg #[.string (p.extract 0 1), .string (p.extract 2 p.size), .string ⟨#[]⟩, .string (p.extract 2 p.size), .string ⟨#[]⟩, .string ⟨#[]⟩, .string ⟨#[]⟩, .bool false, .bool true, .bool true, .bool true, .bool false, .bool false]) ∧ ∃ c c1 c2 c3, w' = (((w.alloc (.cells c 51)).alloc (.cells c1 76)).alloc (.cells c2 110)).alloc (.cells c3 110) := by
  go_enter Tryz.func18, Tryz.ntmps18
  go_wp2_with (go_at_call 40; refine (door_dot p _ hm hp h0 h1).mono ?_; rintro e w1 ⟨rfl, c, c1, c2, rfl⟩)
  refine bodyPost_ret (v := .agg #[.string (p.extract 0 1), .string (p.extract 2 p.size), .string ⟨#[]⟩, .string (p.extract 2 p.size), .string ⟨#[]⟩, .string ⟨#[]⟩, .string ⟨#[]⟩, .bool false, .bool true, .bool true, .bool true, .bool false, .bool false]) (by simp [results, Tryz.results18, go_sem]) rfl ⟨rfl, _, _, _, _, rfl⟩

set_option maxRecDepth 100000 in
set_option maxHeartbeats 400000 in
theorem parse_pipe (p : ByteArray) (w : World) (hm : p.size ≤ 9223372036854775807) (hp : 2 ≤ p.size) (h0 : ((p[0].toNat : Int) == 35) = true) (h1 : ((p[1].toNat : Int) == 124) = true) (h2 : ((p[1].toNat : Int) == 46) = false) (h3 : ((p[1].toNat : Int) == 91) = false) (h4 : ((p[1].toNat : Int) == 40) = false) : Calls Tryz.prog 67 #[.string p] w fun e w' => e = .returned (.agg #[.string (p.extract 0 1), .string ⟨#[]⟩, .string (p.extract 2 p.size), .bool true, .bool false, .bool false, .bool true, .string ⟨#[]⟩, .bool false, .bool false, .string ⟨#[]⟩, .string ⟨#[]⟩, .string ⟨#[]⟩]) ∧ ∃ c, w' = w.alloc (.cells c 110) := by
  go_enter Tryz.func67, Tryz.ntmps67
  go_wp2_with fail
  refine wp_loop_rounds 2 ?_
  rw [rounds_succ]
  go_wp2_with fail
  rw [rounds_succ]
  go_wp2_with fail
  refine bodyPost_ret (v := .agg #[.string (p.extract 0 1), .string ⟨#[]⟩, .string (p.extract 2 p.size), .bool true, .bool false, .bool false, .bool true, .string ⟨#[]⟩, .bool false, .bool false, .string ⟨#[]⟩, .string ⟨#[]⟩, .string ⟨#[]⟩]) (by simp [results, Tryz.results67, go_sem]) rfl ⟨rfl, _, rfl⟩

set_option maxRecDepth 100000 in
set_option maxHeartbeats 400000 in
theorem door_pipe (p : ByteArray) (w : World) (hm : p.size ≤ 9223372036854775807) (hp : 2 ≤ p.size) (h0 : ((p[0].toNat : Int) == 35) = true) (h1 : ((p[1].toNat : Int) == 124) = true) (h2 : ((p[1].toNat : Int) == 46) = false) (h3 : ((p[1].toNat : Int) == 91) = false) (h4 : ((p[1].toNat : Int) == 40) = false) : Calls Tryz.prog 40 #[.string p] w fun e w' => e = .returned (.agg #[.string (p.extract 0 1), .string ⟨#[]⟩, .string (p.extract 2 p.size), .string ⟨#[]⟩, .string ⟨#[]⟩, .string ⟨#[]⟩, .string ⟨#[]⟩, .bool true, .bool false, .bool false, .bool true, .bool false, .bool false]) ∧ ∃ c c1 c2, w' = ((w.alloc (.cells c 76)).alloc (.cells c1 110)).alloc (.cells c2 110) := by
  go_enter Tryz.func40, Tryz.ntmps40
  go_wp2_with (go_at_call 67; refine (parse_pipe p _ hm hp h0 h1 h2 h3 h4).mono ?_; rintro e w1 ⟨rfl, c, rfl⟩)
  refine bodyPost_ret (v := .agg #[.string (p.extract 0 1), .string ⟨#[]⟩, .string (p.extract 2 p.size), .string ⟨#[]⟩, .string ⟨#[]⟩, .string ⟨#[]⟩, .string ⟨#[]⟩, .bool true, .bool false, .bool false, .bool true, .bool false, .bool false]) (by simp [results, Tryz.results40, go_sem]) rfl ⟨rfl, _, _, _, rfl⟩

set_option maxRecDepth 100000 in
set_option maxHeartbeats 400000 in
theorem impl_pipe (p : ByteArray) (w : World) (hm : p.size ≤ 9223372036854775807) (hp : 2 ≤ p.size) (h0 : ((p[0].toNat : Int) == 35) = true) (h1 : ((p[1].toNat : Int) == 124) = true) (h2 : ((p[1].toNat : Int) == 46) = false) (h3 : ((p[1].toNat : Int) == 91) = false) (h4 : ((p[1].toNat : Int) == 40) = false) : Calls Tryz.prog 18 #[.string p] w fun e w' => e = .returned (.agg #[.string (p.extract 0 1), .string ⟨#[]⟩, .string (p.extract 2 p.size), .string ⟨#[]⟩, .string ⟨#[]⟩, .string ⟨#[]⟩, .string ⟨#[]⟩, .bool true, .bool false, .bool false, .bool true, .bool false, .bool false]) ∧ ∃ c c1 c2 c3, w' = (((w.alloc (.cells c 51)).alloc (.cells c1 76)).alloc (.cells c2 110)).alloc (.cells c3 110) := by
  go_enter Tryz.func18, Tryz.ntmps18
  go_wp2_with (go_at_call 40; refine (door_pipe p _ hm hp h0 h1 h2 h3 h4).mono ?_; rintro e w1 ⟨rfl, c, c1, c2, rfl⟩)
  refine bodyPost_ret (v := .agg #[.string (p.extract 0 1), .string ⟨#[]⟩, .string (p.extract 2 p.size), .string ⟨#[]⟩, .string ⟨#[]⟩, .string ⟨#[]⟩, .string ⟨#[]⟩, .bool true, .bool false, .bool false, .bool true, .bool false, .bool false]) (by simp [results, Tryz.results18, go_sem]) rfl ⟨rfl, _, _, _, _, rfl⟩

end Go.Proofs.YtookccnmgoocpaaGreatDoor.Ap
