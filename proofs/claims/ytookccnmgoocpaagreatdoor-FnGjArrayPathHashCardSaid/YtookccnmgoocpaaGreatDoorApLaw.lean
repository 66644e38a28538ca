/- The law on the path '#': whatever the rest and the flag, it returns true and leaves what was there as it was. -/
import Derived.Test.YtookccnmgoocpaaGreatDoorAp
namespace Go.Proofs.YtookccnmgoocpaaGreatDoor.Ap
open Go.RowKit

theorem cut2 (a b : UInt8) (s : ByteArray) : ((⟨#[a]⟩ : ByteArray) ++ ⟨#[b]⟩ ++ s).extract 2 ((⟨#[a]⟩ : ByteArray) ++ ⟨#[b]⟩ ++ s).size = s := by
  have h : ((⟨#[a]⟩ : ByteArray) ++ ⟨#[b]⟩).size = 2 := rfl
  have h2 : ((⟨#[a]⟩ : ByteArray) ++ ⟨#[b]⟩).extract 2 (2 + s.size) = ByteArray.empty := by
    rw [ByteArray.extract_eq_empty_iff, h]; omega
  rw [ByteArray.extract_append, h, ByteArray.size_append, h, h2]
  simp
theorem cut1 (a b : UInt8) (s : ByteArray) : ((⟨#[a]⟩ : ByteArray) ++ ⟨#[b]⟩ ++ s).extract 0 1 = ⟨#[a]⟩ := by
  rw [ByteArray.append_assoc, ByteArray.extract_append]
  simp
  rfl
theorem size2 (a b : UInt8) (s : ByteArray) : ((⟨#[a]⟩ : ByteArray) ++ ⟨#[b]⟩ ++ s).size = 2 + s.size := by
  rw [ByteArray.size_append]; rfl
theorem at0 (a b : UInt8) (s : ByteArray) (h : 0 < ((⟨#[a]⟩ : ByteArray) ++ ⟨#[b]⟩ ++ s).size) : ((⟨#[a]⟩ : ByteArray) ++ ⟨#[b]⟩ ++ s)[0] = a := by
  rw [ByteArray.getElem_append_left (by show 0 < 2; omega)]
  rfl
theorem at1 (a b : UInt8) (s : ByteArray) (h : 1 < ((⟨#[a]⟩ : ByteArray) ++ ⟨#[b]⟩ ++ s).size) : ((⟨#[a]⟩ : ByteArray) ++ ⟨#[b]⟩ ++ s)[1] = b := by
  rw [ByteArray.getElem_append_left (by show 1 < 2; omega)]
  rfl

set_option maxRecDepth 100000 in
/-- What GjArrayPath says of '#.rest'. -/
theorem impl_dot_s (s : ByteArray) (w : World) (hs : s.size ≤ 4096) : Calls Tryz.prog 18 #[.string ((⟨#[35]⟩ : ByteArray) ++ ⟨#[46]⟩ ++ s)] w fun e w' =>
    e = .returned (.agg #[.string ⟨#[35]⟩, .string s, .string ⟨#[]⟩, .string s, .string ⟨#[]⟩, .string ⟨#[]⟩, .string ⟨#[]⟩, .bool false, .bool true, .bool true, .bool true, .bool false, .bool false]) ∧
    ∃ c c1 c2 c3, w' = (((w.alloc (.cells c 51)).alloc (.cells c1 76)).alloc (.cells c2 110)).alloc (.cells c3 110) := by
  have hz := size2 35 46 s
  have h := impl_dot ((⟨#[35]⟩ : ByteArray) ++ ⟨#[46]⟩ ++ s) w (by omega) (by omega) (by rw [at0]; decide) (by rw [at1]; decide)
  rw [cut1, cut2] at h
  exact h
set_option maxRecDepth 100000 in
/-- What GjArrayPath says of '#|rest'. -/
theorem impl_pipe_s (s : ByteArray) (w : World) (hs : s.size ≤ 4096) : Calls Tryz.prog 18 #[.string ((⟨#[35]⟩ : ByteArray) ++ ⟨#[124]⟩ ++ s)] w fun e w' =>
    e = .returned (.agg #[.string ⟨#[35]⟩, .string ⟨#[]⟩, .string s, .string ⟨#[]⟩, .string ⟨#[]⟩, .string ⟨#[]⟩, .string ⟨#[]⟩, .bool true, .bool false, .bool false, .bool true, .bool false, .bool false]) ∧
    ∃ c c1 c2 c3, w' = (((w.alloc (.cells c 51)).alloc (.cells c1 76)).alloc (.cells c2 110)).alloc (.cells c3 110) := by
  have hz := size2 35 124 s
  have h := impl_pipe ((⟨#[35]⟩ : ByteArray) ++ ⟨#[124]⟩ ++ s) w (by omega) (by omega) (by rw [at0]; decide) (by rw [at1]; decide) (by rw [at1]; decide) (by rw [at1]; decide) (by rw [at1]; decide)
  rw [cut1, cut2] at h
  exact h

set_option maxRecDepth 100000 in
set_option maxHeartbeats 400000 in
theorem law_empty (pipe : Bool) (w : World) : Calls Tryz.prog 5 #[.string ⟨#[]⟩, .bool pipe] w fun e w' => e = .returned (.bool true) ∧ Grown w w' := by
  cases pipe
  all_goals
    go_enter Tryz.func5, Tryz.ntmps5
    go_wp2_with (first | (go_at_call 18; refine (impl_hash _).mono ?_; rintro e w1 ⟨rfl, c, c1, c2, c3, rfl⟩) | (go_at_call 19; go_in) | (go_at_call 20; go_in) )
    go_ret
    exact ⟨rfl, by repeat (first | exact Grown.refl _ | apply Grown.drew | apply Grown.alloc | (refine Grown.setCell ?_ (by simp) _))⟩

set_option maxRecDepth 100000 in
set_option maxHeartbeats 1000000 in
theorem law_dot (s : ByteArray) (w : World) (hs : s.size ≤ 9223372036854775807) (hne : s.toList.isEmpty = false) : Calls Tryz.prog 5 #[.string s, .bool false] w fun e w' => e = .returned (.bool true) ∧ Grown w w' := by
  by_cases hb : s.size ≤ 2147483647
  · go_enter Tryz.func5, Tryz.ntmps5
    go_wp2_with (first | (go_at_call 17; refine (word_any _ _ (by omega)).mono ?_; rintro e w1 ⟨b, rfl, rfl⟩; cases b) | (go_at_call 18; refine (impl_dot_s _ _ (by omega)).mono ?_; rintro e w1 ⟨rfl, c, c1, c2, c3, rfl⟩) | (go_at_call 19; go_in) | (go_at_call 20; go_in) )
    all_goals
      go_ret
      exact ⟨rfl, by repeat (first | exact Grown.refl _ | apply Grown.drew | apply Grown.alloc | (refine Grown.setCell ?_ (by simp) _))⟩
  · go_enter Tryz.func5, Tryz.ntmps5
    go_wp2_with fail
    go_ret
    exact ⟨rfl, Grown.refl _⟩

set_option maxRecDepth 100000 in
set_option maxHeartbeats 1000000 in
theorem law_pipe (s : ByteArray) (w : World) (hs : s.size ≤ 9223372036854775807) (hne : s.toList.isEmpty = false) : Calls Tryz.prog 5 #[.string s, .bool true] w fun e w' => e = .returned (.bool true) ∧ Grown w w' := by
  by_cases hb : s.size ≤ 2147483647
  · go_enter Tryz.func5, Tryz.ntmps5
    go_wp2_with (first | (go_at_call 17; refine (word_any _ _ (by omega)).mono ?_; rintro e w1 ⟨b, rfl, rfl⟩; cases b) | (go_at_call 18; refine (impl_pipe_s _ _ (by omega)).mono ?_; rintro e w1 ⟨rfl, c, c1, c2, c3, rfl⟩) | (go_at_call 19; go_in) | (go_at_call 20; go_in) )
    all_goals
      go_ret
      exact ⟨rfl, by repeat (first | exact Grown.refl _ | apply Grown.drew | apply Grown.alloc | (refine Grown.setCell ?_ (by simp) _))⟩
  · go_enter Tryz.func5, Tryz.ntmps5
    go_wp2_with fail
    go_ret
    exact ⟨rfl, Grown.refl _⟩

theorem law_any (s : ByteArray) (pipe : Bool) (w : World) (hs : s.size ≤ 9223372036854775807) : Calls Tryz.prog 5 #[.string s, .bool pipe] w fun e w' => e = .returned (.bool true) ∧ Grown w w' := by
  by_cases hne : s.toList.isEmpty = false
  · cases pipe
    · exact law_dot s w hs hne
    · exact law_pipe s w hs hne
  · have : s = ⟨#[]⟩ := by
      have h : s.toList.isEmpty = true := by simpa using hne
      cases s with
      | mk d => simpa [ByteArray.toList_eq] using h
    subst this
    exact law_empty pipe w

end Go.Proofs.YtookccnmgoocpaaGreatDoor.Ap
