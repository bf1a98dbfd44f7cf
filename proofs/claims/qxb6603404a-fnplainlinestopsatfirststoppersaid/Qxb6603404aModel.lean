/-
  THE WALKS OF THE MODEL: zzFirstBreak, zzFirstCommentBlank, zzFirstKeyColon, zzFirstFlowByte.
-/
import Derived.Test.Qxb6603404aFlow
namespace Go.Proofs.Qxb6603404a
open Go.RowKit
open Pl (octs blankB flowB spaceB endB indB noteB breakB colonB brackB stopB PL First)
set_option linter.unusedVariables false

/-! ### zzFlowByte, zzBlankOrBreak -/
theorem zzFlowByte (c : Int) (w : World) : Calls Try.prog 28 #[.int .u8 c] w fun e w' => e = .returned (.bool (flowB c)) ∧ w = w' := by
  by_cases h0 : c = 44
  · subst h0
    go_enter Try.func28, Try.ntmps28
    go_wp2
    go_ret
    exact ⟨rfl, rfl⟩
  by_cases h1 : c = 91
  · subst h1
    go_enter Try.func28, Try.ntmps28
    go_wp2
    go_ret
    exact ⟨rfl, rfl⟩
  by_cases h2 : c = 93
  · subst h2
    go_enter Try.func28, Try.ntmps28
    go_wp2
    go_ret
    exact ⟨rfl, rfl⟩
  by_cases h3 : c = 123
  · subst h3
    go_enter Try.func28, Try.ntmps28
    go_wp2
    go_ret
    exact ⟨rfl, rfl⟩
  by_cases h4 : c = 125
  · subst h4
    go_enter Try.func28, Try.ntmps28
    go_wp2
    go_ret
    exact ⟨rfl, rfl⟩
  have e0 : (c == 44) = false := beq_eq_false_iff_ne.2 h0
  have e1 : (c == 91) = false := beq_eq_false_iff_ne.2 h1
  have e2 : (c == 93) = false := beq_eq_false_iff_ne.2 h2
  have e3 : (c == 123) = false := beq_eq_false_iff_ne.2 h3
  have e4 : (c == 125) = false := beq_eq_false_iff_ne.2 h4
  have hf : Hid (flowB c = false) := by simp [Hid, flowB, h0, h1, h2, h3, h4]
  go_enter Try.func28, Try.ntmps28
  go_wp2
  go_ret
  exact ⟨ret_bool (unhide hf).symm, rfl⟩

theorem zzBlankOrBreak (c : Int) (w : World) : Calls Try.prog 20 #[.int .u8 c] w fun e w' => e = .returned (.bool (spaceB c)) ∧ w = w' := by
  by_cases h0 : c = 32
  · subst h0
    go_enter Try.func20, Try.ntmps20
    go_wp2
    go_ret
    exact ⟨rfl, rfl⟩
  by_cases h1 : c = 9
  · subst h1
    go_enter Try.func20, Try.ntmps20
    go_wp2
    go_ret
    exact ⟨rfl, rfl⟩
  by_cases h2 : c = 10
  · subst h2
    go_enter Try.func20, Try.ntmps20
    go_wp2
    go_ret
    exact ⟨rfl, rfl⟩
  have e0 : (c == 32) = false := beq_eq_false_iff_ne.2 h0
  have e1 : (c == 9) = false := beq_eq_false_iff_ne.2 h1
  have e2 : (c == 10) = false := beq_eq_false_iff_ne.2 h2
  have hf : Hid (spaceB c = false) := by simp [Hid, spaceB, h0, h1, h2]
  go_enter Try.func20, Try.ntmps20
  go_wp2
  go_ret
  exact ⟨ret_bool (unhide hf).symm, rfl⟩

/-- An answer 'the first place', as a value. -/
def FirstAns (P : Nat → Bool) (n f : Nat) (e : Ending) : Prop := ∃ r : Nat, e = .returned (.int .i64 r) ∧ First P n f r

theorem none_succ {P : Nat → Bool} {f k : Nat} (h : ∀ j, f ≤ j → j < k → P j = false) (hk : P k = false) : ∀ j, f ≤ j → j < k + 1 → P j = false := by
  intro j h1 h2
  by_cases e : j = k
  · subst e
    exact hk
  · exact h j h1 (by omega)

theorem first_here {P : Nat → Bool} {n f k : Nat} (h : ∀ j, f ≤ j → j < k → P j = false) (h1 : f ≤ k) (h2 : k < n) (h3 : P k = true) : First P n f k := ⟨h, .inr ⟨h1, h2, h3⟩⟩
theorem first_none {P : Nat → Bool} {n f k : Nat} (h : ∀ j, f ≤ j → j < k → P j = false) (hk : n ≤ k) : First P n f n := ⟨fun j a b => h j a (by omega), .inl rfl⟩

/-! ### zzFirstBreak -/
theorem firstBreak (s : ByteArray) (f : Nat) (w : World) (hs : s.size ≤ 1048576) (hf : f ≤ 9223372036854775807) :
    Calls Try.prog 22 #[.string s, .int .i64 f] w fun e w' => FirstAns (breakB (octs s)) s.size f e ∧ w = w' := by
  go_enter Try.func22, Try.ntmps22
  go_wp2
  go_loop [5] (fun i => ∃ k : Nat, f ≤ k ∧ i = .int .i64 k ∧ Hid (∀ j, f ≤ j → j < k → breakB (octs s) j = false)) (fun i => s.size - (intOf i).toNat)
  case atStart => exact ⟨f, Nat.le_refl _, rfl, fun j a b => by omega⟩
  case round =>
    obtain ⟨k, hk, rfl, HB⟩ := hrel
    by_cases hlt : k < s.size
    · have hg := Pl.octs_get s k hlt
      by_cases h10 : (s[k].toNat : Int) = 10
      · have HF : Hid (First (breakB (octs s)) s.size f k) := first_here (unhide HB) hk hlt (by rw [breakB, hg, h10]; rfl)
        clear hg HB
        go_wp2
        go_ret
        exact ⟨⟨k, rfl, unhide HF⟩, rfl⟩
      · have h10' : (((s[k].toNat : Nat) : Int) == 10) = false := beq_eq_false_iff_ne.2 h10
        have HB2 := hide (none_succ (unhide HB) (by rw [breakB, hg]; exact h10'))
        clear hg HB
        go_wp2
        go_round
        case rel => exact ⟨k + 1, by omega, by go_num, HB2⟩
        case measure => simp [intOf]; omega
    · have HF : Hid (First (breakB (octs s)) s.size f s.size) := first_none (unhide HB) (by omega)
      clear HB
      go_wp2
      go_ret
      exact ⟨⟨s.size, rfl, unhide HF⟩, rfl⟩

/-! ### zzFirstFlowByte -/
theorem firstFlow (s : ByteArray) (f : Nat) (w : World) (hs : s.size ≤ 1048576) (hf : f ≤ 9223372036854775807) :
    Calls Try.prog 25 #[.string s, .int .i64 f] w fun e w' => FirstAns (brackB (octs s) true) s.size f e ∧ w = w' := by
  go_enter Try.func25, Try.ntmps25
  go_wp2
  go_loop [5] (fun i => ∃ k : Nat, f ≤ k ∧ i = .int .i64 k ∧ Hid (∀ j, f ≤ j → j < k → brackB (octs s) true j = false)) (fun i => s.size - (intOf i).toNat)
  case atStart => exact ⟨f, Nat.le_refl _, rfl, fun j a b => by omega⟩
  case round =>
    obtain ⟨k, hk, rfl, HB⟩ := hrel
    by_cases hlt : k < s.size
    · have hg := Pl.octs_get s k hlt
      cases hfl : flowB ((s[k].toNat : Nat) : Int) with
      | true =>
        have HF : Hid (First (brackB (octs s) true) s.size f k) := first_here (unhide HB) hk hlt (by rw [brackB, hg, hfl]; rfl)
        have HL := hide hfl
        clear hg HB hfl
        go_wp2_with (go_at_call 28; refine (zzFlowByte _ _).mono ?_; rintro e w' ⟨rfl, rfl⟩; rw [unhide HL])
        go_ret
        exact ⟨⟨k, rfl, unhide HF⟩, rfl⟩
      | false =>
        have HB2 := hide (none_succ (unhide HB) (by rw [brackB, hg, hfl]; rfl))
        have HL := hide hfl
        clear hg HB hfl
        go_wp2_with (go_at_call 28; refine (zzFlowByte _ _).mono ?_; rintro e w' ⟨rfl, rfl⟩; rw [unhide HL])
        go_round
        case rel => exact ⟨k + 1, by omega, by go_num, HB2⟩
        case measure => simp [intOf]; omega
    · have HF : Hid (First (brackB (octs s) true) s.size f s.size) := first_none (unhide HB) (by omega)
      clear HB
      go_wp2
      go_ret
      exact ⟨⟨s.size, rfl, unhide HF⟩, rfl⟩

/-! ### zzFirstCommentBlank -/
theorem firstNote (s : ByteArray) (f : Nat) (w : World) (hs : s.size ≤ 1048576) (hf : f ≤ 9223372036854775807) :
    Calls Try.prog 23 #[.string s, .int .i64 f] w fun e w' => FirstAns (noteB (octs s)) s.size f e ∧ w = w' := by
  have HN := hide (Pl.octs_length s)
  go_enter Try.func23, Try.ntmps23
  go_wp2
  go_loop [5] (fun i => ∃ k : Nat, f ≤ k ∧ i = .int .i64 k ∧ Hid (∀ j, f ≤ j → j < k → noteB (octs s) j = false)) (fun i => s.size - (intOf i).toNat)
  case atStart => exact ⟨f, Nat.le_refl _, rfl, fun j a b => by omega⟩
  case round =>
    obtain ⟨k, hk, rfl, HB⟩ := hrel
    by_cases hlt1 : k + 1 < s.size
    · have hlt : k < s.size := by omega
      have hg := Pl.octs_get s k hlt
      have hg1 := Pl.octs_get s (k + 1) hlt1
      cases hbl : blankB ((s[k].toNat : Nat) : Int) with
      | true =>
        by_cases h35 : (s[k + 1].toNat : Int) = 35
        · have HF : Hid (First (noteB (octs s)) s.size f k) := first_here (unhide HB) hk hlt (by rw [noteB, hg, hbl, hg1, h35, decide_eq_true (by rw [unhide HN]; exact hlt1)]; rfl)
          have HL := hide hbl
          clear hg hg1 HB hbl
          go_wp2_with (go_at_call 13; refine (zzBlank _ _).mono ?_; rintro e w' ⟨rfl, rfl⟩; rw [unhide HL])
          go_ret
          exact ⟨⟨k, rfl, unhide HF⟩, rfl⟩
        · have h35' : (((s[k + 1].toNat : Nat) : Int) == 35) = false := beq_eq_false_iff_ne.2 h35
          have HB2 := hide (none_succ (unhide HB) (note_no_hash hg1 h35))
          have HL := hide hbl
          clear hg hg1 HB hbl
          go_wp2_with (go_at_call 13; refine (zzBlank _ _).mono ?_; rintro e w' ⟨rfl, rfl⟩; rw [unhide HL])
          go_round
          case rel => exact ⟨k + 1, by omega, by go_num, HB2⟩
          case measure => simp [intOf]; omega
      | false =>
        have HB2 := hide (none_succ (unhide HB) (note_no_blank hg hbl))
        have HL := hide hbl
        clear hg hg1 HB hbl
        go_wp2_with (go_at_call 13; refine (zzBlank _ _).mono ?_; rintro e w' ⟨rfl, rfl⟩; rw [unhide HL])
        go_round
        case rel => exact ⟨k + 1, by omega, by go_num, HB2⟩
        case measure => simp [intOf]; omega
    · have HF : Hid (First (noteB (octs s)) s.size f s.size) := by
        refine ⟨fun j a b => ?_, .inl rfl⟩
        by_cases hj : j < k
        · exact unhide HB j a hj
        · exact note_no_next (by rw [unhide HN]; omega)
      clear HB
      go_wp2
      go_ret
      exact ⟨⟨s.size, rfl, unhide HF⟩, rfl⟩

/-! ### zzFirstKeyColon -/
set_option maxHeartbeats 1000000 in
theorem firstColon (s : ByteArray) (f : Nat) (flow : Bool) (w : World) (hs : s.size ≤ 1048576) (hf : f ≤ 9223372036854775807) :
    Calls Try.prog 24 #[.string s, .int .i64 f, .bool flow] w fun e w' => FirstAns (colonB (octs s) flow) s.size f e ∧ w = w' := by
  have HN := hide (Pl.octs_length s)
  go_enter Try.func24, Try.ntmps24
  go_wp2
  go_loop [8] (fun i => ∃ k : Nat, f ≤ k ∧ i = .int .i64 k ∧ Hid (∀ j, f ≤ j → j < k → colonB (octs s) flow j = false)) (fun i => s.size - (intOf i).toNat)
  case atStart => exact ⟨f, Nat.le_refl _, rfl, fun j a b => by omega⟩
  case round =>
    obtain ⟨k, hk, rfl, HB⟩ := hrel
    by_cases hlt : k < s.size
    · have hg := Pl.octs_get s k hlt
      by_cases h58 : (s[k].toNat : Int) = 58
      · by_cases hend : k + 1 = s.size
        · have HF : Hid (First (colonB (octs s) flow) s.size f k) := first_here (unhide HB) hk hlt (by
            rw [colonB, hg, h58, indB, endB, decide_eq_true (by rw [unhide HN]; omega), Bool.true_or, Bool.true_or]; rfl)
          have he : ((k : Int) + 1 == (s.size : Int)) = true := beq_iff_eq.2 (by omega)
          clear hg HB
          go_wp2_with fail
          go_ret
          exact ⟨⟨k, rfl, unhide HF⟩, rfl⟩
        · have hlt1 : k + 1 < s.size := by omega
          have hg1 := Pl.octs_get s (k + 1) hlt1
          have he : ((k : Int) + 1 == (s.size : Int)) = false := beq_eq_false_iff_ne.2 (by omega)
          have hi : colonB (octs s) flow k = (spaceB ((s[k + 1].toNat : Nat) : Int) || (flow && flowB ((s[k + 1].toNat : Nat) : Int))) := by
            rw [colonB, hg, h58, indB, endB, decide_eq_false (by rw [unhide HN]; omega), Bool.false_or, hg1]
            rfl
          cases hsp : spaceB ((s[k + 1].toNat : Nat) : Int) with
          | true =>
            have HF : Hid (First (colonB (octs s) flow) s.size f k) := first_here (unhide HB) hk hlt (by rw [hi, hsp]; rfl)
            have HS := hide hsp
            clear hg hg1 HB hi hsp
            go_wp2_with (go_at_call 20; refine (zzBlankOrBreak _ _).mono ?_; rintro e w' ⟨rfl, rfl⟩; rw [unhide HS])
            go_ret
            exact ⟨⟨k, rfl, unhide HF⟩, rfl⟩
          | false =>
            have HS := hide hsp
            cases flow with
            | false =>
              have HB2 := hide (none_succ (unhide HB) (by rw [hi, hsp]; rfl))
              clear hg hg1 HB hi hsp
              go_wp2_with (go_at_call 20; refine (zzBlankOrBreak _ _).mono ?_; rintro e w' ⟨rfl, rfl⟩; rw [unhide HS])
              go_round
              case rel => exact ⟨k + 1, by omega, by go_num, HB2⟩
              case measure => simp [intOf]; omega
            | true =>
              cases hfl : flowB ((s[k + 1].toNat : Nat) : Int) with
              | true =>
                have HF : Hid (First (colonB (octs s) true) s.size f k) := first_here (unhide HB) hk hlt (by rw [hi, hsp, hfl]; rfl)
                have HL := hide hfl
                clear hg hg1 HB hi hsp hfl
                go_wp2_with (first | (go_at_call 20; refine (zzBlankOrBreak _ _).mono ?_; rintro e w' ⟨rfl, rfl⟩; rw [unhide HS]) | (go_at_call 28; refine (zzFlowByte _ _).mono ?_; rintro e w' ⟨rfl, rfl⟩; rw [unhide HL]))
                go_ret
                exact ⟨⟨k, rfl, unhide HF⟩, rfl⟩
              | false =>
                have HB2 := hide (none_succ (unhide HB) (by rw [hi, hsp, hfl]; rfl))
                have HL := hide hfl
                clear hg hg1 HB hi hsp hfl
                go_wp2_with (first | (go_at_call 20; refine (zzBlankOrBreak _ _).mono ?_; rintro e w' ⟨rfl, rfl⟩; rw [unhide HS]) | (go_at_call 28; refine (zzFlowByte _ _).mono ?_; rintro e w' ⟨rfl, rfl⟩; rw [unhide HL]))
                go_round
                case rel => exact ⟨k + 1, by omega, by go_num, HB2⟩
                case measure => simp [intOf]; omega
      · have HB2 := hide (none_succ (unhide HB) (colon_no hg h58))
        have h58' : (((s[k].toNat : Nat) : Int) == 58) = false := beq_eq_false_iff_ne.2 h58
        clear hg HB
        go_wp2
        go_round
        case rel => exact ⟨k + 1, by omega, by go_num, HB2⟩
        case measure => simp [intOf]; omega
    · have HF : Hid (First (colonB (octs s) flow) s.size f s.size) := first_none (unhide HB) (by omega)
      clear HB
      go_wp2
      go_ret
      exact ⟨⟨s.size, rfl, unhide HF⟩, rfl⟩

end Go.Proofs.Qxb6603404a
