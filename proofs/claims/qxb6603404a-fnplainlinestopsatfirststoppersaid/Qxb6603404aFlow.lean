/-
  THE WALK OF FnPlainLineFlowStopsNoLater.
-/
import Derived.Test.Qxb6603404aZZ
namespace Go.Proofs.Qxb6603404a
open Go.RowKit
open Pl (octs blankB flowB spaceB endB indB noteB breakB colonB brackB stopB PL)
set_option linter.unusedVariables false

/-! ### zzBlank -/
theorem zzBlank (c : Int) (w : World) : Calls Try.prog 13 #[.int .u8 c] w fun e w' => e = .returned (.bool (blankB c)) ∧ w = w' := by
  by_cases h1 : c = 32
  · subst h1
    go_enter Try.func13, Try.ntmps13
    go_wp2
    go_ret
    exact ⟨rfl, rfl⟩
  by_cases h2 : c = 9
  · subst h2
    go_enter Try.func13, Try.ntmps13
    go_wp2
    go_ret
    exact ⟨rfl, rfl⟩
  have e1 : (c == 32) = false := beq_eq_false_iff_ne.2 h1
  have e2 : (c == 9) = false := beq_eq_false_iff_ne.2 h2
  have hf : Hid (blankB c = false) := by simp [Hid, blankB, h1, h2]
  go_enter Try.func13, Try.ntmps13
  go_wp2
  go_ret
  exact ⟨ret_bool (unhide hf).symm, rfl⟩

/-! ### zzBytes_FnPlainLineFlowStopsNoLater -/
theorem bytes12_yes (file s : ByteArray) (p1 p2 p3 f : Int) (w : World) (h : file.size + s.size ≤ 1048576) :
    Calls Try.prog 12 #[.string file, .string s, .int .i64 p1, .int .i64 p2, .int .i64 p3, .int .i64 f] w fun e w' => e = .returned (.bool true) ∧ w = w' := by
  go_enter Try.func12, Try.ntmps12
  go_wp2
  go_ret
  exact ⟨rfl, rfl⟩

theorem bytes12_no (file s : ByteArray) (p1 p2 p3 f : Int) (w : World) (hn : file.size ≤ maxLen) (hs : s.size ≤ maxLen) (h : 1048576 < file.size + s.size) :
    Calls Try.prog 12 #[.string file, .string s, .int .i64 p1, .int .i64 p2, .int .i64 p3, .int .i64 f] w fun e w' => e = .returned (.bool false) ∧ w = w' := by
  unfold maxLen at hn hs
  by_cases h1 : file.size ≤ 1048576
  · by_cases h2 : s.size ≤ 1048576
    · go_enter Try.func12, Try.ntmps12
      go_wp2
      go_ret
      exact ⟨rfl, rfl⟩
    · go_enter Try.func12, Try.ntmps12
      go_wp2
      go_ret
      exact ⟨rfl, rfl⟩
  · go_enter Try.func12, Try.ntmps12
    go_wp2
    go_ret
    exact ⟨rfl, rfl⟩

/-- What the law's tail is told of the block answer. -/
theorem tail_facts {l : List Int} {f E S : Nat} {K : Bool} {flow : Bool} (h : PL l flow f E S K) (top : Nat) (ht : l.length ≤ top) (hf : f ≤ top) : f ≤ E ∧ E ≤ S ∧ S ≤ top := by
  refine ⟨h.fe, h.es, ?_⟩
  rcases h.top with h1 | h1 <;> omega

set_option maxRecDepth 100000 in
set_option maxHeartbeats 2000000 in
theorem flow_walk (file s : ByteArray) (p1 p2 p3 : Int) (f : Nat) (w : World) (h : file.size + s.size ≤ 1048576) (hf : f ≤ 9223372036854775807) :
    Calls Try.prog 4 #[.string file, .string s, .int .i64 p1, .int .i64 p2, .int .i64 p3, .int .i64 f] w fun e w' => e = .returned (.bool true) ∧ Grown w w' := by
  have HN := hide (Pl.octs_length s)
  by_cases hft : f ≤ s.size
  all_goals
    go_enter Try.func4, Try.ntmps4
    go_wp2_with fail
    refine (bytes12_yes _ _ _ _ _ _ _ h).mono ?_
    rintro e w' ⟨rfl, rfl⟩
    go_wp2_with fail
    refine (zzPlainLine _ _ _ _ _ f _ _ (by omega) (by omega)).mono ?_
    rintro e w1 ⟨⟨EF, SF, KF, rfl, qF⟩, cs1, rfl⟩
    go_wp2_with fail
    refine (zzPlainLine _ _ _ _ _ f _ _ (by omega) (by omega)).mono ?_
    rintro e w2 ⟨⟨EB, SB, KB, rfl, qB⟩, cs2, rfl⟩
    have hsFB := qF.stop_le qB Pl.stopB_mono
    have heFB := qF.end_le qB hsFB
    have HNB : Hid (∀ j (hj : j < s.size), f ≤ j → j < EB → ((s[j].toNat : Nat) : Int) ≠ 10) := fun j hj a b => by
      have := qB.no_break j a b
      rw [Pl.octs_get s j hj] at this
      exact this
    have HIN : Hid (f < EB → EB ≤ s.size) := fun hh => by
      have := qB.inside hh
      rw [unhide HN] at this
      exact this
    have HLA : Hid (∀ (hj : EB - 1 < s.size), f < EB → blankB ((s[EB - 1].toNat : Nat) : Int) = false) := fun hj hh => by
      rcases qB.last with h1 | h1
      · omega
      · rw [Pl.octs_get s (EB - 1) hj] at h1
        exact h1
  · obtain ⟨f1, f2, f3⟩ := tail_facts qF s.size (by rw [unhide HN]; omega) hft
    obtain ⟨b1, b2, b3⟩ := tail_facts qB s.size (by rw [unhide HN]; omega) hft
    clear qF qB
    go_wp2
    go_loop [20] (fun i => ∃ k : Nat, f ≤ k ∧ k ≤ EB ∧ i = .int .i64 k) (fun i => EB - (intOf i).toNat)
    case atStart => exact ⟨f, Nat.le_refl _, by omega, rfl⟩
    case round =>
      obtain ⟨k, hk1, hk2, rfl⟩ := hrel
      by_cases hlt : k < EB
      · have hks : k < s.size := by omega
        have hne : (((s[k].toNat : Nat) : Int) == 10) = false := beq_eq_false_iff_ne.2 (unhide HNB k hks hk1 hlt)
        go_wp2
        go_round
        case rel => exact ⟨k + 1, by omega, by omega, by go_num⟩
        case measure => simp [intOf]; omega
      · by_cases hfe : f < EB
        · have hks : EB - 1 < s.size := by omega
          have hbl := hide (unhide HLA hks hfe)
          go_wp2_with (go_at_call 13; refine (zzBlank _ _).mono ?_; rintro e w' ⟨rfl, rfl⟩; rw [unhide hbl])
          go_ret
          exact ⟨rfl, ((Grown.refl _).alloc _ _).alloc _ _⟩
        · have hfd : decide ((f : Int) < (EB : Int)) = false := decide_eq_false (by omega)
          go_wp2
          go_ret
          exact ⟨rfl, ((Grown.refl _).alloc _ _).alloc _ _⟩
  · obtain ⟨f1, f2, f3⟩ := tail_facts qF f (by rw [unhide HN]; omega) (Nat.le_refl _)
    obtain ⟨b1, b2, b3⟩ := tail_facts qB f (by rw [unhide HN]; omega) (Nat.le_refl _)
    obtain rfl : f = EB := by omega
    clear qF qB
    have hft2 : s.size < f := by omega
    go_wp2
    go_loop [20] (fun i => i = .int .i64 f) (fun i => 0)
    case atStart => rfl
    case round =>
      obtain rfl := hrel
      go_wp2
      go_ret
      exact ⟨rfl, ((Grown.refl _).alloc _ _).alloc _ _⟩

/-- Outside the bounds it returns true at once. -/
theorem flow_out (file s : ByteArray) (p1 p2 p3 f : Int) (w : World) (hn : file.size ≤ maxLen) (hs : s.size ≤ maxLen) (h : ¬ (file.size + s.size ≤ 1048576 ∧ 0 ≤ f)) :
    Calls Try.prog 4 #[.string file, .string s, .int .i64 p1, .int .i64 p2, .int .i64 p3, .int .i64 f] w fun e w' => e = .returned (.bool true) ∧ Grown w w' := by
  by_cases hb : file.size + s.size ≤ 1048576
  · have h1 : f < 0 := by omega
    go_enter Try.func4, Try.ntmps4
    go_wp2_with (go_at_call 12; refine (bytes12_yes _ _ _ _ _ _ _ hb).mono ?_; rintro e w' ⟨rfl, rfl⟩)
    go_ret
    exact ⟨rfl, Grown.refl _⟩
  · go_enter Try.func4, Try.ntmps4
    go_wp2_with (go_at_call 12; refine (bytes12_no _ _ _ _ _ _ _ hn hs (by omega)).mono ?_; rintro e w' ⟨rfl, rfl⟩)
    go_ret
    exact ⟨rfl, Grown.refl _⟩

end Go.Proofs.Qxb6603404a
