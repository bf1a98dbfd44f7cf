/-
  THE WALK OF FnPlainLineStopsAtFirstStopper.
-/
import Derived.Test.Qxb6603404aModelT
namespace Go.Proofs.Qxb6603404a
open Go.RowKit
open Pl (octs blankB flowB spaceB endB indB noteB breakB colonB brackB stopB PL First)
set_option linter.unusedVariables false

theorem model_any (s : ByteArray) (f : Nat) (flow : Bool) (w : World) (hs : s.size ≤ 1048576) (hf : f ≤ 9223372036854775807) :
    Calls Try.prog 11 #[.string s, .int .i64 f, .bool flow] w fun e w' => LineAns (octs s) flow f e ∧ w = w' := by
  cases flow with
  | false => exact model_false s f w hs hf
  | true => exact model_true s f w hs hf

/-! ### zzBytes_FnPlainLineStopsAtFirstStopper -/
theorem bytes9_yes (file s : ByteArray) (p1 p2 p3 f : Int) (flow : Bool) (w : World) (h : file.size + s.size ≤ 1048576) :
    Calls Try.prog 9 #[.string file, .string s, .int .i64 p1, .int .i64 p2, .int .i64 p3, .int .i64 f, .bool flow] w fun e w' => e = .returned (.bool true) ∧ w = w' := by
  go_enter Try.func9, Try.ntmps9
  go_wp2
  go_ret
  exact ⟨rfl, rfl⟩

theorem bytes9_no (file s : ByteArray) (p1 p2 p3 f : Int) (flow : Bool) (w : World) (hn : file.size ≤ maxLen) (hs : s.size ≤ maxLen) (h : 1048576 < file.size + s.size) :
    Calls Try.prog 9 #[.string file, .string s, .int .i64 p1, .int .i64 p2, .int .i64 p3, .int .i64 f, .bool flow] w fun e w' => e = .returned (.bool false) ∧ w = w' := by
  unfold maxLen at hn hs
  by_cases h1 : file.size ≤ 1048576
  · by_cases h2 : s.size ≤ 1048576
    · go_enter Try.func9, Try.ntmps9
      go_wp2
      go_ret
      exact ⟨rfl, rfl⟩
    · go_enter Try.func9, Try.ntmps9
      go_wp2
      go_ret
      exact ⟨rfl, rfl⟩
  · go_enter Try.func9, Try.ntmps9
    go_wp2
    go_ret
    exact ⟨rfl, rfl⟩

set_option maxHeartbeats 1000000 in
theorem first_walk (file s : ByteArray) (p1 p2 p3 : Int) (f : Nat) (flow : Bool) (w : World) (h : file.size + s.size ≤ 1048576) (hf : f ≤ 9223372036854775807) :
    Calls Try.prog 3 #[.string file, .string s, .int .i64 p1, .int .i64 p2, .int .i64 p3, .int .i64 f, .bool flow] w fun e w' => e = .returned (.bool true) ∧ Grown w w' := by
  go_enter Try.func3, Try.ntmps3
  go_wp2_with fail
  refine (bytes9_yes _ _ _ _ _ _ _ _ h).mono ?_
  rintro e w' ⟨rfl, rfl⟩
  go_wp2_with fail
  refine (zzPlainLine _ _ _ _ _ f _ _ (by omega) (by omega)).mono ?_
  rintro e w1 ⟨⟨E1, S1, K1, rfl, q1⟩, cs1, rfl⟩
  go_wp2_with fail
  refine (model_any s f flow _ (by omega) (by omega)).mono ?_
  rintro e w2 ⟨⟨E2, S2, K2, rfl, q2⟩, rfl⟩
  obtain ⟨rfl, rfl, rfl⟩ := q1.same q2
  clear q1 q2
  go_wp2
  go_ret
  exact ⟨rfl, (Grown.refl _).alloc _ _⟩

/-- Outside the bounds it returns true at once. -/
theorem first_out (file s : ByteArray) (p1 p2 p3 f : Int) (flow : Bool) (w : World) (hn : file.size ≤ maxLen) (hs : s.size ≤ maxLen) (h : ¬ (file.size + s.size ≤ 1048576 ∧ 0 ≤ f)) :
    Calls Try.prog 3 #[.string file, .string s, .int .i64 p1, .int .i64 p2, .int .i64 p3, .int .i64 f, .bool flow] w fun e w' => e = .returned (.bool true) ∧ Grown w w' := by
  by_cases hb : file.size + s.size ≤ 1048576
  · have h1 : f < 0 := by omega
    go_enter Try.func3, Try.ntmps3
    go_wp2_with (go_at_call 9; refine (bytes9_yes _ _ _ _ _ _ _ _ hb).mono ?_; rintro e w' ⟨rfl, rfl⟩)
    go_ret
    exact ⟨rfl, Grown.refl _⟩
  · go_enter Try.func3, Try.ntmps3
    go_wp2_with (go_at_call 9; refine (bytes9_no _ _ _ _ _ _ _ _ hn hs (by omega)).mono ?_; rintro e w' ⟨rfl, rfl⟩)
    go_ret
    exact ⟨rfl, Grown.refl _⟩

end Go.Proofs.Qxb6603404a
