/-
  THE WALKS OF plainLine AND OF WHAT IT CALLS.
-/
import Derived.Test.Qxb6603404aRows
import Derived.Test.Qxb6603404aPlain
import Derived.WalkKit
import Derived.ProofKit
import Derived.Below
import Derived.Outline
import Derived.WalkSpells
namespace Go.Proofs.Qxb6603404a
open Go.RowKit
open Pl (octs blankB flowB spaceB endB indB noteB breakB colonB brackB stopB PL)
set_option linter.unusedVariables false

theorem hide {p : Prop} (h : p) : Hid p := h
theorem unhide {p : Prop} (h : Hid p) : p := h

theorem ret_bool {a b : Bool} (h : a = b) : Ending.returned (.bool a) = .returned (.bool b) := by rw [h]

/-! ### isFlowIndicator -/
theorem isFlow (c : Int) (w : World) : Calls Try.prog 31 #[.int .u8 c] w fun e w' => e = .returned (.bool (flowB c)) ∧ w = w' := by
  by_cases h1 : c = 44
  · subst h1
    go_enter Try.func31, Try.ntmps31
    go_wp2
    go_ret
    exact ⟨rfl, rfl⟩
  by_cases h2 : c = 91
  · subst h2
    go_enter Try.func31, Try.ntmps31
    go_wp2
    go_ret
    exact ⟨rfl, rfl⟩
  by_cases h3 : c = 93
  · subst h3
    go_enter Try.func31, Try.ntmps31
    go_wp2
    go_ret
    exact ⟨rfl, rfl⟩
  by_cases h4 : c = 123
  · subst h4
    go_enter Try.func31, Try.ntmps31
    go_wp2
    go_ret
    exact ⟨rfl, rfl⟩
  by_cases h5 : c = 125
  · subst h5
    go_enter Try.func31, Try.ntmps31
    go_wp2
    go_ret
    exact ⟨rfl, rfl⟩
  have e1 : (c == 44) = false := beq_eq_false_iff_ne.2 h1
  have e2 : (c == 91) = false := beq_eq_false_iff_ne.2 h2
  have e3 : (c == 93) = false := beq_eq_false_iff_ne.2 h3
  have e4 : (c == 123) = false := beq_eq_false_iff_ne.2 h4
  have e5 : (c == 125) = false := beq_eq_false_iff_ne.2 h5
  have hf : Hid (flowB c = false) := by simp [Hid, flowB, h1, h2, h3, h4, h5]
  go_enter Try.func31, Try.ntmps31
  go_wp2
  go_ret
  exact ⟨ret_bool (unhide hf).symm, rfl⟩

/-! ### spaceOrEnd -/
theorem spaceOrEnd (b i : Nat) (s : ByteArray) (w : World) (hc : w.cell? ⟨b, 1, none⟩ = some (.string s)) (hs : s.size ≤ 1048576) (hi : i ≤ 1048577) :
    Calls Try.prog 35 #[.pointer (some ⟨b, 0, none⟩), .int .i64 i] w fun e w' => e = .returned (.bool (endB (octs s) i)) ∧ w = w' := by
  by_cases hlt : i < s.size
  · have hg := Pl.octs_get s i hlt
    have hend : ∀ x, spaceB ((s[i].toNat : Nat) : Int) = x → Hid (endB (octs s) i = x) := fun x hx => by
      show endB (octs s) i = x
      rw [endB, hg, hx, Pl.octs_length, decide_eq_false (by omega), Bool.false_or]
    clear hg
    by_cases h1 : (s[i].toNat : Int) = 32
    · have E := hend true (by rw [h1]; rfl)
      clear hend
      go_enter Try.func35, Try.ntmps35
      go_wp2
      go_ret
      exact ⟨ret_bool (unhide E).symm, rfl⟩
    by_cases h2 : (s[i].toNat : Int) = 9
    · have E := hend true (by rw [h2]; rfl)
      clear hend
      go_enter Try.func35, Try.ntmps35
      go_wp2
      go_ret
      exact ⟨ret_bool (unhide E).symm, rfl⟩
    by_cases h3 : (s[i].toNat : Int) = 10
    · have E := hend true (by rw [h3]; rfl)
      clear hend
      go_enter Try.func35, Try.ntmps35
      go_wp2
      go_ret
      exact ⟨ret_bool (unhide E).symm, rfl⟩
    have E := hend false (by simp [spaceB, h1, h2, h3])
    have e1 : (((s[i].toNat : Nat) : Int) == 32) = false := beq_eq_false_iff_ne.2 h1
    have e2 : (((s[i].toNat : Nat) : Int) == 9) = false := beq_eq_false_iff_ne.2 h2
    have e3 : (((s[i].toNat : Nat) : Int) == 10) = false := beq_eq_false_iff_ne.2 h3
    clear hend h1 h2 h3
    go_enter Try.func35, Try.ntmps35
    go_wp2
    go_ret
    exact ⟨ret_bool ((decide_eq_false (by omega)).trans (unhide E).symm), rfl⟩
  · have E : Hid (endB (octs s) i = true) := by
      show endB (octs s) i = true
      rw [endB, Pl.octs_length, decide_eq_true (by omega), Bool.true_or]
    have hge : s.size ≤ i := by omega
    go_enter Try.func35, Try.ntmps35
    go_wp2
    go_ret
    exact ⟨ret_bool (unhide E).symm, rfl⟩

/-! ### valueIndicatorAt -/
theorem indAt (b i : Nat) (flow : Bool) (s : ByteArray) (w : World) (hc : w.cell? ⟨b, 1, none⟩ = some (.string s)) (hs : s.size ≤ 1048576) (hi : i ≤ 1048577) :
    Calls Try.prog 30 #[.pointer (some ⟨b, 0, none⟩), .int .i64 i, .bool flow] w fun e w' => e = .returned (.bool (indB (octs s) flow i)) ∧ w = w' := by
  cases he : endB (octs s) i with
  | true =>
    have E : Hid (indB (octs s) flow i = true) := by
      show indB (octs s) flow i = true
      rw [indB, he, Bool.true_or]
    have He := hide he
    clear he
    go_enter Try.func30, Try.ntmps30
    go_wp2_with (go_at_call 35; refine (spaceOrEnd b i s _ hc hs hi).mono ?_; rintro e w' ⟨rfl, rfl⟩; rw [unhide He])
    go_ret
    exact ⟨ret_bool (unhide E).symm, rfl⟩
  | false =>
    have hlt : i < s.size := by
      rw [endB, Pl.octs_length, Bool.or_eq_false_iff] at he
      have := he.1
      simp at this
      omega
    have hg := Pl.octs_get s i hlt
    cases flow with
    | false =>
      have E : Hid (indB (octs s) false i = false) := by
        show indB (octs s) false i = false
        rw [indB, he, Bool.false_and, Bool.or_false]
      have He := hide he
      clear he hg
      go_enter Try.func30, Try.ntmps30
      go_wp2_with (go_at_call 35; refine (spaceOrEnd b i s _ hc hs hi).mono ?_; rintro e w' ⟨rfl, rfl⟩; rw [unhide He])
      go_ret
      exact ⟨ret_bool (unhide E).symm, rfl⟩
    | true =>
      have E : Hid (indB (octs s) true i = flowB ((s[i].toNat : Nat) : Int)) := by
        show indB (octs s) true i = _
        rw [indB, he, Bool.true_and, Bool.false_or, hg]
      have He := hide he
      clear he hg
      go_enter Try.func30, Try.ntmps30
      go_wp2_with (first | (go_at_call 35; refine (spaceOrEnd b i s _ hc hs hi).mono ?_; rintro e w' ⟨rfl, rfl⟩; rw [unhide He]) | (go_at_call 31; refine (isFlow _ _).mono ?_; rintro e w' ⟨rfl, rfl⟩))
      go_ret
      exact ⟨ret_bool (unhide E).symm, rfl⟩

end Go.Proofs.Qxb6603404a
