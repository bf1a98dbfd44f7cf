/-
  THE WALK OF (*yamlParser).plainLine, AND OF ZZPlainLine.
-/
import Derived.Test.Qxb6603404aLine
namespace Go.Proofs.Qxb6603404a
open Go.RowKit
open Pl (octs blankB flowB spaceB endB indB noteB breakB colonB brackB stopB PL)
set_option linter.unusedVariables false

theorem stop_break {l : List Int} {flow : Bool} {k : Nat} {c : Int} (hg : l.getD k 0 = c) (h : c = 10) : stopB l flow k = true := by
  have e : breakB l k = true := by rw [breakB, hg, h]; rfl
  rw [stopB, e]
  simp
theorem stop_note {l : List Int} {flow : Bool} {k : Nat} {c d : Int} (hg : l.getD k 0 = c) (hb : blankB c = true) (h1 : k + 1 < l.length) (hg1 : l.getD (k + 1) 0 = d) (h : d = 35) : stopB l flow k = true := by
  have e : noteB l k = true := by rw [noteB, hg, hb, hg1, h, decide_eq_true h1]; rfl
  rw [stopB, e]
  simp
theorem stop_colon {l : List Int} {flow : Bool} {k : Nat} {c : Int} (hg : l.getD k 0 = c) (h : c = 58) (hi : indB l flow (k + 1) = true) : stopB l flow k = true := by
  have e : colonB l flow k = true := by rw [colonB, hg, h, hi]; rfl
  rw [stopB, e]
  simp
theorem stop_brack {l : List Int} {k : Nat} {c : Int} (hg : l.getD k 0 = c) (h : flowB c = true) : stopB l true k = true := by
  have e : brackB l true k = true := by rw [brackB, hg, h]; rfl
  rw [stopB, e]
  simp
theorem go_on {l : List Int} {flow : Bool} {k : Nat} {c : Int} (hg : l.getD k 0 = c) (h10 : c ≠ 10) (hn : noteB l k = false) (hc : colonB l flow k = false) (hb : (flow && flowB c) = false) : stopB l flow k = false := by
  have e : breakB l k = false := by rw [breakB, hg]; exact beq_eq_false_iff_ne.2 h10
  rw [stopB, e, hn, hc, brackB, hg, hb]
  rfl
theorem note_no_blank {l : List Int} {k : Nat} {c : Int} (hg : l.getD k 0 = c) (h : blankB c = false) : noteB l k = false := by rw [noteB, hg, h]; rfl
theorem note_no_next {l : List Int} {k : Nat} (h : ¬ k + 1 < l.length) : noteB l k = false := by
  rw [noteB, decide_eq_false h, Bool.false_and, Bool.and_false]
theorem note_no_hash {l : List Int} {k : Nat} {d : Int} (hg : l.getD (k + 1) 0 = d) (h : d ≠ 35) : noteB l k = false := by
  rw [noteB, hg, beq_eq_false_iff_ne.2 h, Bool.and_false, Bool.and_false]
theorem colon_no {l : List Int} {flow : Bool} {k : Nat} {c : Int} (hg : l.getD k 0 = c) (h : c ≠ 58) : colonB l flow k = false := by
  rw [colonB, hg, beq_eq_false_iff_ne.2 h, Bool.false_and]
theorem colon_no_ind {l : List Int} {flow : Bool} {k : Nat} (h : indB l flow (k + 1) = false) : colonB l flow k = false := by
  rw [colonB, h, Bool.and_false]
theorem before_succ {l : List Int} {flow : Bool} {f k : Nat} (h : ∀ j, f ≤ j → j < k → stopB l flow j = false) (hk : stopB l flow k = false) : ∀ j, f ≤ j → j < k + 1 → stopB l flow j = false := by
  intro j h1 h2
  by_cases e : j = k
  · subst e
    exact hk
  · exact h j h1 (by omega)
theorem key_yes {l : List Int} {k : Nat} {c : Int} (hg : l.getD k 0 = c) (h : c = 58) (hk : k < l.length) : true = (decide (k < l.length) && l.getD k 0 == 58) := by
  rw [hg, h, decide_eq_true hk]
  rfl
theorem key_no {l : List Int} {k : Nat} {c : Int} (hg : l.getD k 0 = c) (h : c ≠ 58) : false = (decide (k < l.length) && l.getD k 0 == 58) := by
  rw [hg, beq_eq_false_iff_ne.2 h, Bool.and_false]
theorem key_none {l : List Int} {k : Nat} (hk : ¬ k < l.length) : false = (decide (k < l.length) && l.getD k 0 == 58) := by
  rw [decide_eq_false hk, Bool.false_and]

/-- plainLine's answer, as a value. -/
def LineAns (l : List Int) (flow : Bool) (f : Nat) (e : Ending) : Prop := ∃ (E S : Nat) (K : Bool), e = .returned (.tuple #[.int .i64 E, .int .i64 S, .bool K]) ∧ PL l flow f E S K

/-- What the second loop is told: whatever end it finds is plainLine's. -/
def Tail (l : List Int) (flow : Bool) (f k : Nat) (K : Bool) : Prop :=
  ∀ E, f ≤ E → E ≤ k → (E = f ∨ blankB (l.getD (E - 1) 0) = false) → (∀ j, E ≤ j → j < k → blankB (l.getD j 0) = true) → PL l flow f E k K

theorem mk_tail {l : List Int} {flow : Bool} {f k : Nat} {K : Bool} (top : k ≤ l.length ∨ k = f) (before : ∀ j, f ≤ j → j < k → stopB l flow j = false) (at_ : k < l.length → stopB l flow k = true) (key : K = (decide (k < l.length) && l.getD k 0 == 58)) : Tail l flow f k K :=
  fun E h1 h2 h3 h4 => ⟨h1, h2, top, before, at_, h3, h4, key⟩

theorem rest_pred {l : List Int} {E k : Nat} {c : Int} (h : ∀ j, E ≤ j → j < k → blankB (l.getD j 0) = true) (hg : l.getD (E - 1) 0 = c) (hb : blankB c = true) : ∀ j, E - 1 ≤ j → j < k → blankB (l.getD j 0) = true := by
  intro j h1 h2
  by_cases e : j = E - 1
  · subst e
    rw [hg]
    exact hb
  · exact h j (by omega) h2

set_option maxRecDepth 100000 in
set_option maxHeartbeats 2000000 in
theorem plainLine (b f : Nat) (flow : Bool) (s : ByteArray) (w : World) (hc : w.cell? ⟨b, 1, none⟩ = some (.string s)) (hs : s.size ≤ 1048576) (hf : f ≤ 9223372036854775807) :
    Calls Try.prog 21 #[.pointer (some ⟨b, 0, none⟩), .int .i64 f, .bool flow] w fun e w' => LineAns (octs s) flow f e ∧ w = w' := by
  have hn := Pl.octs_length s
  have HN := hide hn
  clear hn
  go_enter Try.func21, Try.ntmps21
  go_wp2
  go_loop [8, 9] (fun key i => ∃ k : Nat, f ≤ k ∧ Hid (k ≤ s.size ∨ k = f) ∧ i = .int .i64 k ∧ key = .bool false ∧ Hid (∀ j, f ≤ j → j < k → stopB (octs s) flow j = false)) (fun _ i => s.size - (intOf i).toNat)
  case atStart => exact ⟨f, Nat.le_refl _, .inr rfl, rfl, rfl, fun j h1 h2 => by omega⟩
  case round =>
    obtain ⟨k, hfk, hkt, rfl, rfl, HB⟩ := hrel
    by_cases hlt : k < s.size
    · have hg := Pl.octs_get s k hlt
      have hlt' : k < (octs s).length := by rw [unhide HN]; exact hlt
      by_cases h10 : (s[k].toNat : Int) = 10
      · have HF : Hid (flowB ((s[k].toNat : Nat) : Int) = false) := by rw [h10]; exact rfl
        have HI : Hid (indB (octs s) flow (k + 1) = indB (octs s) flow (k + 1)) := rfl
        have HT : Hid (Tail (octs s) flow f k false) := mk_tail (by rw [unhide HN]; exact unhide hkt) (unhide HB) (fun _ => stop_break hg h10) (key_no hg (by omega))
        clear hg HB hlt'
        go_wp2_with (first | (go_at_call 30; refine (indAt b (k + 1) flow s _ hc hs (by omega)).mono ?_; rintro e w' ⟨rfl, rfl⟩; rw [unhide HI]) | (go_at_call 31; refine (isFlow _ _).mono ?_; rintro e w' ⟨rfl, rfl⟩; rw [unhide HF]))
        go_loop [6] (fun e => ∃ E : Nat, f ≤ E ∧ E ≤ k ∧ e = .int .i64 E ∧ Hid (∀ j, E ≤ j → j < k → blankB ((octs s).getD j 0) = true)) (fun e => (intOf e).toNat)
        case atStart => exact ⟨k, hfk, Nat.le_refl _, rfl, fun j h1 h2 => by omega⟩
        case round =>
          obtain ⟨E, hE1, hE2, rfl, HR⟩ := hrel
          by_cases hfe : f < E
          · have hE3 : E - 1 < s.size := by have := unhide hkt; omega
            have hg3 := Pl.octs_get s (E - 1) hE3
            by_cases e1 : (s[E - 1].toNat : Int) = 32
            · have HR2 := hide (rest_pred (unhide HR) hg3 (by rw [e1]; rfl))
              clear hg3
              go_wp2
              go_round
              case rel => exact ⟨E - 1, by omega, by omega, by go_num, HR2⟩
              case measure => simp [intOf]; omega
            by_cases e2 : (s[E - 1].toNat : Int) = 9
            · have HR2 := hide (rest_pred (unhide HR) hg3 (by rw [e2]; rfl))
              clear hg3
              go_wp2
              go_round
              case rel => exact ⟨E - 1, by omega, by omega, by go_num, HR2⟩
              case measure => simp [intOf]; omega
            have e3 : (((s[E - 1].toNat : Nat) : Int) == 32) = false := beq_eq_false_iff_ne.2 e1
            have e4 : (((s[E - 1].toNat : Nat) : Int) == 9) = false := beq_eq_false_iff_ne.2 e2
            have HP := hide (unhide HT E hE1 hE2 (.inr (by rw [hg3, blankB, e3, e4]; rfl)) (unhide HR))
            clear hg3
            go_wp2
            go_ret3
            exact ⟨⟨E, k, false, rfl, unhide HP⟩, rfl⟩
          · have HP := hide (unhide HT E hE1 hE2 (.inl (by omega)) (unhide HR))
            go_wp2
            go_ret3
            exact ⟨⟨E, k, false, rfl, unhide HP⟩, rfl⟩
      by_cases h32 : (s[k].toNat : Int) = 32
      · have hbl : blankB ((s[k].toNat : Nat) : Int) = true := by rw [h32]; rfl
        have hfl : flowB ((s[k].toNat : Nat) : Int) = false := by rw [h32]; rfl
        have HF : Hid (flowB ((s[k].toNat : Nat) : Int) = false) := hfl
        rw [h32] at HF
        have HI : Hid (indB (octs s) flow (k + 1) = indB (octs s) flow (k + 1)) := rfl
        have hfl2 : (flow && flowB ((s[k].toNat : Nat) : Int)) = false := by rw [hfl, Bool.and_false]
        by_cases hn1 : k + 1 < s.size
        · have hg1 := Pl.octs_get s (k + 1) hn1
          by_cases h35 : (s[k + 1].toNat : Int) = 35
          · have hn1' : k + 1 < (octs s).length := by rw [unhide HN]; exact hn1
            have HT : Hid (Tail (octs s) flow f k false) := mk_tail (by rw [unhide HN]; exact unhide hkt) (unhide HB) (fun _ => stop_note hg hbl hn1' hg1 h35) (key_no hg (by omega))
            clear hg HB hlt' hg1 hbl hfl hfl2 hn1'
            go_wp2_with (first | (go_at_call 30; refine (indAt b (k + 1) flow s _ hc hs (by omega)).mono ?_; rintro e w' ⟨rfl, rfl⟩; rw [unhide HI]) | (go_at_call 31; refine (isFlow _ _).mono ?_; rintro e w' ⟨rfl, rfl⟩; rw [unhide HF]))
            go_loop [6] (fun e => ∃ E : Nat, f ≤ E ∧ E ≤ k ∧ e = .int .i64 E ∧ Hid (∀ j, E ≤ j → j < k → blankB ((octs s).getD j 0) = true)) (fun e => (intOf e).toNat)
            case atStart => exact ⟨k, hfk, Nat.le_refl _, rfl, fun j h1 h2 => by omega⟩
            case round =>
              obtain ⟨E, hE1, hE2, rfl, HR⟩ := hrel
              by_cases hfe : f < E
              · have hE3 : E - 1 < s.size := by have := unhide hkt; omega
                have hg3 := Pl.octs_get s (E - 1) hE3
                by_cases e1 : (s[E - 1].toNat : Int) = 32
                · have HR2 := hide (rest_pred (unhide HR) hg3 (by rw [e1]; rfl))
                  clear hg3
                  go_wp2
                  go_round
                  case rel => exact ⟨E - 1, by omega, by omega, by go_num, HR2⟩
                  case measure => simp [intOf]; omega
                by_cases e2 : (s[E - 1].toNat : Int) = 9
                · have HR2 := hide (rest_pred (unhide HR) hg3 (by rw [e2]; rfl))
                  clear hg3
                  go_wp2
                  go_round
                  case rel => exact ⟨E - 1, by omega, by omega, by go_num, HR2⟩
                  case measure => simp [intOf]; omega
                have e3 : (((s[E - 1].toNat : Nat) : Int) == 32) = false := beq_eq_false_iff_ne.2 e1
                have e4 : (((s[E - 1].toNat : Nat) : Int) == 9) = false := beq_eq_false_iff_ne.2 e2
                have HP := hide (unhide HT E hE1 hE2 (.inr (by rw [hg3, blankB, e3, e4]; rfl)) (unhide HR))
                clear hg3
                go_wp2
                go_ret3
                exact ⟨⟨E, k, false, rfl, unhide HP⟩, rfl⟩
              · have HP := hide (unhide HT E hE1 hE2 (.inl (by omega)) (unhide HR))
                go_wp2
                go_ret3
                exact ⟨⟨E, k, false, rfl, unhide HP⟩, rfl⟩
          have h35' : (((s[k + 1].toNat : Nat) : Int) == 35) = false := beq_eq_false_iff_ne.2 h35
          have hst := go_on hg (by omega) (note_no_hash hg1 h35) (colon_no hg (by omega)) hfl2
          cases flow with
          | false =>
            have HB2 := hide (before_succ (unhide HB) (hst))
            clear hg HB hlt' hg1 hbl hfl hfl2 hst
            go_wp2_with (first | (go_at_call 30; refine (indAt b (k + 1) flow s _ hc hs (by omega)).mono ?_; rintro e w' ⟨rfl, rfl⟩; rw [unhide HI]) | (go_at_call 31; refine (isFlow _ _).mono ?_; rintro e w' ⟨rfl, rfl⟩; rw [unhide HF]))
            go_round
            case rel => exact ⟨k + 1, by omega, .inl (by omega), by go_num, rfl, HB2⟩
            case measure => simp [intOf]; omega
          | true =>
            have HB2 := hide (before_succ (unhide HB) (hst))
            clear hg HB hlt' hg1 hbl hfl hfl2 hst
            go_wp2_with (first | (go_at_call 30; refine (indAt b (k + 1) flow s _ hc hs (by omega)).mono ?_; rintro e w' ⟨rfl, rfl⟩; rw [unhide HI]) | (go_at_call 31; refine (isFlow _ _).mono ?_; rintro e w' ⟨rfl, rfl⟩; rw [unhide HF]))
            go_round
            case rel => exact ⟨k + 1, by omega, .inl (by omega), by go_num, rfl, HB2⟩
            case measure => simp [intOf]; omega
        have hst := go_on hg (by omega) (note_no_next (by rw [unhide HN]; exact hn1)) (colon_no hg (by omega)) hfl2
        cases flow with
        | false =>
          have HB2 := hide (before_succ (unhide HB) (hst))
          clear hg HB hlt' hbl hfl hfl2 hst
          go_wp2_with (first | (go_at_call 30; refine (indAt b (k + 1) flow s _ hc hs (by omega)).mono ?_; rintro e w' ⟨rfl, rfl⟩; rw [unhide HI]) | (go_at_call 31; refine (isFlow _ _).mono ?_; rintro e w' ⟨rfl, rfl⟩; rw [unhide HF]))
          go_round
          case rel => exact ⟨k + 1, by omega, .inl (by omega), by go_num, rfl, HB2⟩
          case measure => simp [intOf]; omega
        | true =>
          have HB2 := hide (before_succ (unhide HB) (hst))
          clear hg HB hlt' hbl hfl hfl2 hst
          go_wp2_with (first | (go_at_call 30; refine (indAt b (k + 1) flow s _ hc hs (by omega)).mono ?_; rintro e w' ⟨rfl, rfl⟩; rw [unhide HI]) | (go_at_call 31; refine (isFlow _ _).mono ?_; rintro e w' ⟨rfl, rfl⟩; rw [unhide HF]))
          go_round
          case rel => exact ⟨k + 1, by omega, .inl (by omega), by go_num, rfl, HB2⟩
          case measure => simp [intOf]; omega
      by_cases h9 : (s[k].toNat : Int) = 9
      · have hbl : blankB ((s[k].toNat : Nat) : Int) = true := by rw [h9]; rfl
        have hfl : flowB ((s[k].toNat : Nat) : Int) = false := by rw [h9]; rfl
        have HF : Hid (flowB ((s[k].toNat : Nat) : Int) = false) := hfl
        rw [h9] at HF
        have HI : Hid (indB (octs s) flow (k + 1) = indB (octs s) flow (k + 1)) := rfl
        have hfl2 : (flow && flowB ((s[k].toNat : Nat) : Int)) = false := by rw [hfl, Bool.and_false]
        by_cases hn1 : k + 1 < s.size
        · have hg1 := Pl.octs_get s (k + 1) hn1
          by_cases h35 : (s[k + 1].toNat : Int) = 35
          · have hn1' : k + 1 < (octs s).length := by rw [unhide HN]; exact hn1
            have HT : Hid (Tail (octs s) flow f k false) := mk_tail (by rw [unhide HN]; exact unhide hkt) (unhide HB) (fun _ => stop_note hg hbl hn1' hg1 h35) (key_no hg (by omega))
            clear hg HB hlt' hg1 hbl hfl hfl2 hn1'
            go_wp2_with (first | (go_at_call 30; refine (indAt b (k + 1) flow s _ hc hs (by omega)).mono ?_; rintro e w' ⟨rfl, rfl⟩; rw [unhide HI]) | (go_at_call 31; refine (isFlow _ _).mono ?_; rintro e w' ⟨rfl, rfl⟩; rw [unhide HF]))
            go_loop [6] (fun e => ∃ E : Nat, f ≤ E ∧ E ≤ k ∧ e = .int .i64 E ∧ Hid (∀ j, E ≤ j → j < k → blankB ((octs s).getD j 0) = true)) (fun e => (intOf e).toNat)
            case atStart => exact ⟨k, hfk, Nat.le_refl _, rfl, fun j h1 h2 => by omega⟩
            case round =>
              obtain ⟨E, hE1, hE2, rfl, HR⟩ := hrel
              by_cases hfe : f < E
              · have hE3 : E - 1 < s.size := by have := unhide hkt; omega
                have hg3 := Pl.octs_get s (E - 1) hE3
                by_cases e1 : (s[E - 1].toNat : Int) = 32
                · have HR2 := hide (rest_pred (unhide HR) hg3 (by rw [e1]; rfl))
                  clear hg3
                  go_wp2
                  go_round
                  case rel => exact ⟨E - 1, by omega, by omega, by go_num, HR2⟩
                  case measure => simp [intOf]; omega
                by_cases e2 : (s[E - 1].toNat : Int) = 9
                · have HR2 := hide (rest_pred (unhide HR) hg3 (by rw [e2]; rfl))
                  clear hg3
                  go_wp2
                  go_round
                  case rel => exact ⟨E - 1, by omega, by omega, by go_num, HR2⟩
                  case measure => simp [intOf]; omega
                have e3 : (((s[E - 1].toNat : Nat) : Int) == 32) = false := beq_eq_false_iff_ne.2 e1
                have e4 : (((s[E - 1].toNat : Nat) : Int) == 9) = false := beq_eq_false_iff_ne.2 e2
                have HP := hide (unhide HT E hE1 hE2 (.inr (by rw [hg3, blankB, e3, e4]; rfl)) (unhide HR))
                clear hg3
                go_wp2
                go_ret3
                exact ⟨⟨E, k, false, rfl, unhide HP⟩, rfl⟩
              · have HP := hide (unhide HT E hE1 hE2 (.inl (by omega)) (unhide HR))
                go_wp2
                go_ret3
                exact ⟨⟨E, k, false, rfl, unhide HP⟩, rfl⟩
          have h35' : (((s[k + 1].toNat : Nat) : Int) == 35) = false := beq_eq_false_iff_ne.2 h35
          have hst := go_on hg (by omega) (note_no_hash hg1 h35) (colon_no hg (by omega)) hfl2
          cases flow with
          | false =>
            have HB2 := hide (before_succ (unhide HB) (hst))
            clear hg HB hlt' hg1 hbl hfl hfl2 hst
            go_wp2_with (first | (go_at_call 30; refine (indAt b (k + 1) flow s _ hc hs (by omega)).mono ?_; rintro e w' ⟨rfl, rfl⟩; rw [unhide HI]) | (go_at_call 31; refine (isFlow _ _).mono ?_; rintro e w' ⟨rfl, rfl⟩; rw [unhide HF]))
            go_round
            case rel => exact ⟨k + 1, by omega, .inl (by omega), by go_num, rfl, HB2⟩
            case measure => simp [intOf]; omega
          | true =>
            have HB2 := hide (before_succ (unhide HB) (hst))
            clear hg HB hlt' hg1 hbl hfl hfl2 hst
            go_wp2_with (first | (go_at_call 30; refine (indAt b (k + 1) flow s _ hc hs (by omega)).mono ?_; rintro e w' ⟨rfl, rfl⟩; rw [unhide HI]) | (go_at_call 31; refine (isFlow _ _).mono ?_; rintro e w' ⟨rfl, rfl⟩; rw [unhide HF]))
            go_round
            case rel => exact ⟨k + 1, by omega, .inl (by omega), by go_num, rfl, HB2⟩
            case measure => simp [intOf]; omega
        have hst := go_on hg (by omega) (note_no_next (by rw [unhide HN]; exact hn1)) (colon_no hg (by omega)) hfl2
        cases flow with
        | false =>
          have HB2 := hide (before_succ (unhide HB) (hst))
          clear hg HB hlt' hbl hfl hfl2 hst
          go_wp2_with (first | (go_at_call 30; refine (indAt b (k + 1) flow s _ hc hs (by omega)).mono ?_; rintro e w' ⟨rfl, rfl⟩; rw [unhide HI]) | (go_at_call 31; refine (isFlow _ _).mono ?_; rintro e w' ⟨rfl, rfl⟩; rw [unhide HF]))
          go_round
          case rel => exact ⟨k + 1, by omega, .inl (by omega), by go_num, rfl, HB2⟩
          case measure => simp [intOf]; omega
        | true =>
          have HB2 := hide (before_succ (unhide HB) (hst))
          clear hg HB hlt' hbl hfl hfl2 hst
          go_wp2_with (first | (go_at_call 30; refine (indAt b (k + 1) flow s _ hc hs (by omega)).mono ?_; rintro e w' ⟨rfl, rfl⟩; rw [unhide HI]) | (go_at_call 31; refine (isFlow _ _).mono ?_; rintro e w' ⟨rfl, rfl⟩; rw [unhide HF]))
          go_round
          case rel => exact ⟨k + 1, by omega, .inl (by omega), by go_num, rfl, HB2⟩
          case measure => simp [intOf]; omega
      have q32 : (((s[k].toNat : Nat) : Int) == 32) = false := beq_eq_false_iff_ne.2 h32
      have q9 : (((s[k].toNat : Nat) : Int) == 9) = false := beq_eq_false_iff_ne.2 h9
      have hbl : blankB ((s[k].toNat : Nat) : Int) = false := by rw [blankB, q32, q9]; rfl
      by_cases h58 : (s[k].toNat : Int) = 58
      · have hfl : flowB ((s[k].toNat : Nat) : Int) = false := by rw [h58]; rfl
        have HF : Hid (flowB ((s[k].toNat : Nat) : Int) = false) := hfl
        rw [h58] at HF
        have hfl2 : (flow && flowB ((s[k].toNat : Nat) : Int)) = false := by rw [hfl, Bool.and_false]
        cases hi : indB (octs s) flow (k + 1) with
        | true =>
          have HI := hide hi
          have HT : Hid (Tail (octs s) flow f k true) := mk_tail (by rw [unhide HN]; exact unhide hkt) (unhide HB) (fun _ => stop_colon hg h58 hi) (key_yes hg h58 hlt')
          clear hg HB hlt' hbl hfl hfl2 hi
          go_wp2_with (first | (go_at_call 30; refine (indAt b (k + 1) flow s _ hc hs (by omega)).mono ?_; rintro e w' ⟨rfl, rfl⟩; rw [unhide HI]) | (go_at_call 31; refine (isFlow _ _).mono ?_; rintro e w' ⟨rfl, rfl⟩; rw [unhide HF]))
          go_loop [6] (fun e => ∃ E : Nat, f ≤ E ∧ E ≤ k ∧ e = .int .i64 E ∧ Hid (∀ j, E ≤ j → j < k → blankB ((octs s).getD j 0) = true)) (fun e => (intOf e).toNat)
          case atStart => exact ⟨k, hfk, Nat.le_refl _, rfl, fun j h1 h2 => by omega⟩
          case round =>
            obtain ⟨E, hE1, hE2, rfl, HR⟩ := hrel
            by_cases hfe : f < E
            · have hE3 : E - 1 < s.size := by have := unhide hkt; omega
              have hg3 := Pl.octs_get s (E - 1) hE3
              by_cases e1 : (s[E - 1].toNat : Int) = 32
              · have HR2 := hide (rest_pred (unhide HR) hg3 (by rw [e1]; rfl))
                clear hg3
                go_wp2
                go_round
                case rel => exact ⟨E - 1, by omega, by omega, by go_num, HR2⟩
                case measure => simp [intOf]; omega
              by_cases e2 : (s[E - 1].toNat : Int) = 9
              · have HR2 := hide (rest_pred (unhide HR) hg3 (by rw [e2]; rfl))
                clear hg3
                go_wp2
                go_round
                case rel => exact ⟨E - 1, by omega, by omega, by go_num, HR2⟩
                case measure => simp [intOf]; omega
              have e3 : (((s[E - 1].toNat : Nat) : Int) == 32) = false := beq_eq_false_iff_ne.2 e1
              have e4 : (((s[E - 1].toNat : Nat) : Int) == 9) = false := beq_eq_false_iff_ne.2 e2
              have HP := hide (unhide HT E hE1 hE2 (.inr (by rw [hg3, blankB, e3, e4]; rfl)) (unhide HR))
              clear hg3
              go_wp2
              go_ret3
              exact ⟨⟨E, k, true, rfl, unhide HP⟩, rfl⟩
            · have HP := hide (unhide HT E hE1 hE2 (.inl (by omega)) (unhide HR))
              go_wp2
              go_ret3
              exact ⟨⟨E, k, true, rfl, unhide HP⟩, rfl⟩
        | false =>
          have HI := hide hi
          have hst := go_on hg (by omega) (note_no_blank hg hbl) (colon_no_ind hi) hfl2
          cases flow with
          | false =>
            have HB2 := hide (before_succ (unhide HB) (hst))
            clear hg HB hlt' hbl hfl hfl2 hst hi
            go_wp2_with (first | (go_at_call 30; refine (indAt b (k + 1) false s _ hc hs (by omega)).mono ?_; rintro e w' ⟨rfl, rfl⟩; rw [unhide HI]) | (go_at_call 31; refine (isFlow _ _).mono ?_; rintro e w' ⟨rfl, rfl⟩; rw [unhide HF]))
            go_round
            case rel => exact ⟨k + 1, by omega, .inl (by omega), by go_num, rfl, HB2⟩
            case measure => simp [intOf]; omega
          | true =>
            have HB2 := hide (before_succ (unhide HB) (hst))
            clear hg HB hlt' hbl hfl hfl2 hst hi
            go_wp2_with (first | (go_at_call 30; refine (indAt b (k + 1) true s _ hc hs (by omega)).mono ?_; rintro e w' ⟨rfl, rfl⟩; rw [unhide HI]) | (go_at_call 31; refine (isFlow _ _).mono ?_; rintro e w' ⟨rfl, rfl⟩; rw [unhide HF]))
            go_round
            case rel => exact ⟨k + 1, by omega, .inl (by omega), by go_num, rfl, HB2⟩
            case measure => simp [intOf]; omega
      have q58 : (((s[k].toNat : Nat) : Int) == 58) = false := beq_eq_false_iff_ne.2 h58
      have HI : Hid (indB (octs s) flow (k + 1) = indB (octs s) flow (k + 1)) := rfl
      cases flow with
      | false =>
        have HF : Hid (flowB ((s[k].toNat : Nat) : Int) = flowB ((s[k].toNat : Nat) : Int)) := rfl
        have hst := go_on (flow := false) hg (by omega) (note_no_blank hg hbl) (colon_no hg h58) rfl
        have HB2 := hide (before_succ (unhide HB) (hst))
        clear hg HB hlt' hbl hst
        go_wp2_with (first | (go_at_call 30; refine (indAt b (k + 1) flow s _ hc hs (by omega)).mono ?_; rintro e w' ⟨rfl, rfl⟩; rw [unhide HI]) | (go_at_call 31; refine (isFlow _ _).mono ?_; rintro e w' ⟨rfl, rfl⟩; rw [unhide HF]))
        go_round
        case rel => exact ⟨k + 1, by omega, .inl (by omega), by go_num, rfl, HB2⟩
        case measure => simp [intOf]; omega
      | true =>
        cases hfl : flowB ((s[k].toNat : Nat) : Int) with
        | true =>
          have HF := hide hfl
          have HT : Hid (Tail (octs s) true f k false) := mk_tail (by rw [unhide HN]; exact unhide hkt) (unhide HB) (fun _ => stop_brack hg hfl) (key_no hg h58)
          clear hg HB hlt' hbl hfl
          go_wp2_with (first | (go_at_call 30; refine (indAt b (k + 1) flow s _ hc hs (by omega)).mono ?_; rintro e w' ⟨rfl, rfl⟩; rw [unhide HI]) | (go_at_call 31; refine (isFlow _ _).mono ?_; rintro e w' ⟨rfl, rfl⟩; rw [unhide HF]))
          go_loop [6] (fun e => ∃ E : Nat, f ≤ E ∧ E ≤ k ∧ e = .int .i64 E ∧ Hid (∀ j, E ≤ j → j < k → blankB ((octs s).getD j 0) = true)) (fun e => (intOf e).toNat)
          case atStart => exact ⟨k, hfk, Nat.le_refl _, rfl, fun j h1 h2 => by omega⟩
          case round =>
            obtain ⟨E, hE1, hE2, rfl, HR⟩ := hrel
            by_cases hfe : f < E
            · have hE3 : E - 1 < s.size := by have := unhide hkt; omega
              have hg3 := Pl.octs_get s (E - 1) hE3
              by_cases e1 : (s[E - 1].toNat : Int) = 32
              · have HR2 := hide (rest_pred (unhide HR) hg3 (by rw [e1]; rfl))
                clear hg3
                go_wp2
                go_round
                case rel => exact ⟨E - 1, by omega, by omega, by go_num, HR2⟩
                case measure => simp [intOf]; omega
              by_cases e2 : (s[E - 1].toNat : Int) = 9
              · have HR2 := hide (rest_pred (unhide HR) hg3 (by rw [e2]; rfl))
                clear hg3
                go_wp2
                go_round
                case rel => exact ⟨E - 1, by omega, by omega, by go_num, HR2⟩
                case measure => simp [intOf]; omega
              have e3 : (((s[E - 1].toNat : Nat) : Int) == 32) = false := beq_eq_false_iff_ne.2 e1
              have e4 : (((s[E - 1].toNat : Nat) : Int) == 9) = false := beq_eq_false_iff_ne.2 e2
              have HP := hide (unhide HT E hE1 hE2 (.inr (by rw [hg3, blankB, e3, e4]; rfl)) (unhide HR))
              clear hg3
              go_wp2
              go_ret3
              exact ⟨⟨E, k, false, rfl, unhide HP⟩, rfl⟩
            · have HP := hide (unhide HT E hE1 hE2 (.inl (by omega)) (unhide HR))
              go_wp2
              go_ret3
              exact ⟨⟨E, k, false, rfl, unhide HP⟩, rfl⟩
        | false =>
          have HF := hide hfl
          have hst := go_on (flow := true) hg (by omega) (note_no_blank hg hbl) (colon_no hg h58) (by rw [hfl]; rfl)
          have HB2 := hide (before_succ (unhide HB) (hst))
          clear hg HB hlt' hbl hfl hst
          go_wp2_with (first | (go_at_call 30; refine (indAt b (k + 1) flow s _ hc hs (by omega)).mono ?_; rintro e w' ⟨rfl, rfl⟩; rw [unhide HI]) | (go_at_call 31; refine (isFlow _ _).mono ?_; rintro e w' ⟨rfl, rfl⟩; rw [unhide HF]))
          go_round
          case rel => exact ⟨k + 1, by omega, .inl (by omega), by go_num, rfl, HB2⟩
          case measure => simp [intOf]; omega
    · have HF : Hid True := trivial
      have hge : s.size ≤ k := by omega
      have HT : Hid (Tail (octs s) flow f k false) := mk_tail (by rw [unhide HN]; exact unhide hkt) (unhide HB) (fun h => absurd h (by rw [unhide HN]; omega)) (key_none (by rw [unhide HN]; omega))
      clear HB
      go_wp2
      go_loop [6] (fun e => ∃ E : Nat, f ≤ E ∧ E ≤ k ∧ e = .int .i64 E ∧ Hid (∀ j, E ≤ j → j < k → blankB ((octs s).getD j 0) = true)) (fun e => (intOf e).toNat)
      case atStart => exact ⟨k, hfk, Nat.le_refl _, rfl, fun j h1 h2 => by omega⟩
      case round =>
        obtain ⟨E, hE1, hE2, rfl, HR⟩ := hrel
        by_cases hfe : f < E
        · have hE3 : E - 1 < s.size := by have := unhide hkt; omega
          have hg3 := Pl.octs_get s (E - 1) hE3
          by_cases e1 : (s[E - 1].toNat : Int) = 32
          · have HR2 := hide (rest_pred (unhide HR) hg3 (by rw [e1]; rfl))
            clear hg3
            go_wp2
            go_round
            case rel => exact ⟨E - 1, by omega, by omega, by go_num, HR2⟩
            case measure => simp [intOf]; omega
          by_cases e2 : (s[E - 1].toNat : Int) = 9
          · have HR2 := hide (rest_pred (unhide HR) hg3 (by rw [e2]; rfl))
            clear hg3
            go_wp2
            go_round
            case rel => exact ⟨E - 1, by omega, by omega, by go_num, HR2⟩
            case measure => simp [intOf]; omega
          have e3 : (((s[E - 1].toNat : Nat) : Int) == 32) = false := beq_eq_false_iff_ne.2 e1
          have e4 : (((s[E - 1].toNat : Nat) : Int) == 9) = false := beq_eq_false_iff_ne.2 e2
          have HP := hide (unhide HT E hE1 hE2 (.inr (by rw [hg3, blankB, e3, e4]; rfl)) (unhide HR))
          clear hg3
          go_wp2
          go_ret3
          exact ⟨⟨E, k, false, rfl, unhide HP⟩, rfl⟩
        · have HP := hide (unhide HT E hE1 hE2 (.inl (by omega)) (unhide HR))
          go_wp2
          go_ret3
          exact ⟨⟨E, k, false, rfl, unhide HP⟩, rfl⟩

end Go.Proofs.Qxb6603404a
