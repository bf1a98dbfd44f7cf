/-
  ZZPlainLine, and what the laws ask of it.
-/
import Derived.Test.Qxb6603404aPlainLine
namespace Go.Proofs.Qxb6603404a
open Go.RowKit
open Pl (octs blankB flowB spaceB endB indB noteB breakB colonB brackB stopB PL)
set_option linter.unusedVariables false

/-- ZZPlainLine makes a parser and asks it. -/
theorem zzPlainLine (file s : ByteArray) (p1 p2 p3 : Int) (f : Nat) (flow : Bool) (w : World) (hs : s.size ≤ 1048576) (hf : f ≤ 9223372036854775807) :
    Calls Try.prog 10 #[.string file, .string s, .int .i64 p1, .int .i64 p2, .int .i64 p3, .int .i64 f, .bool flow] w fun e w' => LineAns (octs s) flow f e ∧ ∃ cs, w' = w.alloc (.cells cs 35) := by
  go_enter Try.func10, Try.ntmps10
  go_wp2_with fail
  refine (plainLine w.heap.size f flow s _ (by simp) hs hf).mono ?_
  rintro e w' ⟨⟨E, S, K, rfl, hp⟩, rfl⟩
  go_wp2
  go_ret3
  exact ⟨⟨E, S, K, rfl, hp⟩, _, rfl⟩

theorem zzPlainLine0 (file s : ByteArray) (p1 p2 p3 : Int) (flow : Bool) (w : World) (hs : s.size ≤ 1048576) :
    Calls Try.prog 10 #[.string file, .string s, .int .i64 p1, .int .i64 p2, .int .i64 p3, .int .i64 0, .bool flow] w fun e w' => LineAns (octs s) flow 0 e ∧ ∃ cs, w' = w.alloc (.cells cs 35) :=
  zzPlainLine file s p1 p2 p3 0 flow w hs (by omega)

/-! ### zzBytes_FnPlainLineLooksOnlyAhead -/
theorem bytes14_yes (file s : ByteArray) (p1 p2 p3 f : Int) (flow : Bool) (w : World) (h : file.size + s.size ≤ 1048576) :
    Calls Try.prog 14 #[.string file, .string s, .int .i64 p1, .int .i64 p2, .int .i64 p3, .int .i64 f, .bool flow] w fun e w' => e = .returned (.bool true) ∧ w = w' := by
  go_enter Try.func14, Try.ntmps14
  go_wp2
  go_ret
  exact ⟨rfl, rfl⟩

theorem bytes14_no (file s : ByteArray) (p1 p2 p3 f : Int) (flow : Bool) (w : World) (hn : file.size ≤ maxLen) (hs : s.size ≤ maxLen) (h : 1048576 < file.size + s.size) :
    Calls Try.prog 14 #[.string file, .string s, .int .i64 p1, .int .i64 p2, .int .i64 p3, .int .i64 f, .bool flow] w fun e w' => e = .returned (.bool false) ∧ w = w' := by
  unfold maxLen at hn hs
  by_cases h1 : file.size ≤ 1048576
  · by_cases h2 : s.size ≤ 1048576
    · go_enter Try.func14, Try.ntmps14
      go_wp2
      go_ret
      exact ⟨rfl, rfl⟩
    · go_enter Try.func14, Try.ntmps14
      go_wp2
      go_ret
      exact ⟨rfl, rfl⟩
  · go_enter Try.func14, Try.ntmps14
    go_wp2
    go_ret
    exact ⟨rfl, rfl⟩

/-! ### FnPlainLineLooksOnlyAhead -/
theorem octs_extract (s : ByteArray) (f : Nat) : octs (s.extract f s.size) = (octs s).drop f := by
  have e : (s.extract f s.size).data.toList = s.data.toList.drop f := by
    rw [ByteArray.data_extract, Array.toList_extract]
    apply List.take_of_length_le
    simp
  rw [octs, octs, e, List.map_drop]

set_option maxHeartbeats 1000000 in
theorem ahead_walk (file s : ByteArray) (p1 p2 p3 : Int) (f : Nat) (flow : Bool) (w : World) (h : file.size + s.size ≤ 1048576) (hf : f ≤ s.size) :
    Calls Try.prog 5 #[.string file, .string s, .int .i64 p1, .int .i64 p2, .int .i64 p3, .int .i64 f, .bool flow] w fun e w' => e = .returned (.bool true) ∧ Grown w w' := by
  go_enter Try.func5, Try.ntmps5
  go_wp2_with fail
  refine (bytes14_yes _ _ _ _ _ _ _ _ h).mono ?_
  rintro e w' ⟨rfl, rfl⟩
  go_wp2_with fail
  refine (zzPlainLine _ _ _ _ _ _ _ _ (by omega) (by omega)).mono ?_
  rintro e w1 ⟨⟨E1, S1, K1, rfl, q1⟩, cs1, rfl⟩
  go_wp2_with fail
  have hes : (s.extract f s.size).size ≤ 1048576 := by rw [← Pl.octs_length, octs_extract, List.length_drop, Pl.octs_length]; omega
  refine (zzPlainLine0 _ (s.extract f s.size) _ _ _ _ _ hes).mono ?_
  rintro e w2 ⟨⟨E2, S2, K2, rfl, q2⟩, cs2, rfl⟩
  rw [octs_extract] at q2
  have q3 := Pl.PL.ahead (by rw [Pl.octs_length]; exact hf) q2
  obtain ⟨rfl, rfl, rfl⟩ := q1.same q3
  have ht : f + S2 ≤ s.size := by
    have := q3.top
    rw [Pl.octs_length] at this
    omega
  have he := q3.es
  clear q1 q2 q3 hes
  go_wp2
  go_ret
  exact ⟨rfl, ((Grown.refl _).alloc _ _).alloc _ _⟩

/-- Outside the bounds it returns true at once. -/
theorem ahead_out (file s : ByteArray) (p1 p2 p3 f : Int) (flow : Bool) (w : World) (hn : file.size ≤ maxLen) (hs : s.size ≤ maxLen) (h : ¬ (file.size + s.size ≤ 1048576 ∧ 0 ≤ f ∧ f ≤ s.size)) :
    Calls Try.prog 5 #[.string file, .string s, .int .i64 p1, .int .i64 p2, .int .i64 p3, .int .i64 f, .bool flow] w fun e w' => e = .returned (.bool true) ∧ Grown w w' := by
  by_cases hb : file.size + s.size ≤ 1048576
  · by_cases h0 : 0 ≤ f
    · have h1 : (s.size : Int) < f := by omega
      go_enter Try.func5, Try.ntmps5
      go_wp2_with (go_at_call 14; refine (bytes14_yes _ _ _ _ _ _ _ _ hb).mono ?_; rintro e w' ⟨rfl, rfl⟩)
      go_ret
      exact ⟨rfl, Grown.refl _⟩
    · have h1 : f < 0 := by omega
      go_enter Try.func5, Try.ntmps5
      go_wp2_with (go_at_call 14; refine (bytes14_yes _ _ _ _ _ _ _ _ hb).mono ?_; rintro e w' ⟨rfl, rfl⟩)
      go_ret
      exact ⟨rfl, Grown.refl _⟩
  · go_enter Try.func5, Try.ntmps5
    go_wp2_with (go_at_call 14; refine (bytes14_no _ _ _ _ _ _ _ _ hn hs (by omega)).mono ?_; rintro e w' ⟨rfl, rfl⟩)
    go_ret
    exact ⟨rfl, Grown.refl _⟩

end Go.Proofs.Qxb6603404a
