/-
  THE WALK OF zzPlainLineModel: its answer is plainLine's.
-/
import Derived.Test.Qxb6603404aModel
namespace Go.Proofs.Qxb6603404a
open Go.RowKit
open Pl (octs blankB flowB spaceB endB indB noteB breakB colonB brackB stopB PL First)
set_option linter.unusedVariables false

/-- What the model's loop is told: whatever end it finds is plainLine's. -/
def ModelTail (l : List Int) (flow : Bool) (f S : Nat) : Prop :=
  ∀ E K, f ≤ E → E ≤ S → (E = f ∨ blankB (l.getD (E - 1) 0) = false) → (∀ j, E ≤ j → j < S → blankB (l.getD j 0) = true) → K = (decide (S < l.length) && l.getD S 0 == 58) → PL l flow f E S K

theorem mtail {l : List Int} {flow : Bool} {n f r S : Nat} (hn : l.length = n) (h : First (stopB l flow) n f r) (hS : S = if r < f then f else r) : ModelTail l flow f S := by
  subst hn
  exact fun E K h1 h2 h3 h4 h5 => Pl.model_PL h hS h1 h2 h3 h4 h5

theorem stop_false {l : List Int} {n f r1 r2 r3 : Nat} (h1 : First (breakB l) n f r1) (h2 : First (noteB l) n f r2) (h3 : First (colonB l false) n f r3) :
    First (stopB l false) n f (if r3 < (if r2 < r1 then r2 else r1) then r3 else (if r2 < r1 then r2 else r1)) :=
  ((h1.min h2).min h3).congr (fun j => by simp [stopB, brackB])

theorem stop_true {l : List Int} {n f r1 r2 r3 r4 : Nat} (h1 : First (breakB l) n f r1) (h2 : First (noteB l) n f r2) (h3 : First (colonB l true) n f r3) (h4 : First (brackB l true) n f r4) :
    First (stopB l true) n f (if r4 < (if r3 < (if r2 < r1 then r2 else r1) then r3 else (if r2 < r1 then r2 else r1)) then r4 else (if r3 < (if r2 < r1 then r2 else r1) then r3 else (if r2 < r1 then r2 else r1))) :=
  (((h1.min h2).min h3).min h4).congr (fun j => rfl)

theorem rest_more {l : List Int} {E k : Nat} {c : Int} (h : ∀ j, E ≤ j → j < k → blankB (l.getD j 0) = true) (hg : l.getD k 0 = c) (hb : blankB c = true) : ∀ j, E ≤ j → j < k + 1 → blankB (l.getD j 0) = true := by
  intro j h1 h2
  by_cases e : j = k
  · subst e
    rw [hg]
    exact hb
  · exact h j h1 (by omega)

set_option maxRecDepth 100000 in
set_option maxHeartbeats 4000000 in
theorem model_false (s : ByteArray) (f : Nat) (w : World) (hs : s.size ≤ 1048576) (hf : f ≤ 9223372036854775807) :
    Calls Try.prog 11 #[.string s, .int .i64 f, .bool false] w fun e w' => LineAns (octs s) false f e ∧ w = w' := by
  have HN := hide (Pl.octs_length s)
  go_enter Try.func11, Try.ntmps11
  go_wp2_with fail
  refine (firstBreak s f _ hs hf).mono ?_
  rintro e w' ⟨⟨r1, rfl, F1⟩, rfl⟩
  have l1 := F1.le
  have G1 := hide F1
  clear F1
  go_wp2_with fail
  refine (firstNote s f _ hs hf).mono ?_
  rintro e w' ⟨⟨r2, rfl, F2⟩, rfl⟩
  have l2 := F2.le
  have G2 := hide F2
  clear F2
  by_cases c2 : r2 < r1
  · go_wp2_with fail
    refine (firstColon s f false _ hs hf).mono ?_
    rintro e w' ⟨⟨r3, rfl, F3⟩, rfl⟩
    have l3 := F3.le
    have G3 := hide F3
    clear F3
    by_cases c3 : r3 < r2
    · have F5 := stop_false (unhide G1) (unhide G2) (unhide G3)
      rw [if_pos c2, if_pos c3] at F5
      by_cases c5 : r3 < f
      · have HM : Hid (ModelTail (octs s) false f f) := mtail (unhide HN) F5 (by rw [if_pos c5])
        clear F5 G1 G2 G3
        go_wp2
        go_loop [14, 15] (fun e i => ∃ E k : Nat, f ≤ E ∧ E ≤ k ∧ k ≤ f ∧ e = .int .i64 E ∧ i = .int .i64 k ∧ Hid (E = f ∨ blankB ((octs s).getD (E - 1) 0) = false) ∧ Hid (∀ j, E ≤ j → j < k → blankB ((octs s).getD j 0) = true)) (fun _ i => f - (intOf i).toNat)
        case atStart => exact ⟨f, f, Nat.le_refl _, Nat.le_refl _, by omega, rfl, rfl, .inl rfl, fun j a b => by omega⟩
        case round =>
          obtain ⟨E, k, hE1, hE2, hE3, rfl, rfl, HL, HR⟩ := hrel
          by_cases hlt : k < f
          · have hks : k < s.size := by omega
            have hg := Pl.octs_get s k hks
            cases hbl : blankB ((s[k].toNat : Nat) : Int) with
            | true =>
              have HR2 := hide (rest_more (unhide HR) hg hbl)
              have HB := hide hbl
              clear hg hbl HR
              go_wp2_with (go_at_call 13; refine (zzBlank _ _).mono ?_; rintro e w' ⟨rfl, rfl⟩; rw [unhide HB])
              go_round
              case rel => exact ⟨E, k + 1, hE1, by omega, by omega, rfl, by go_num, HL, HR2⟩
              case measure => simp [intOf]; omega
            | false =>
              have HL2 : Hid (k + 1 = f ∨ blankB ((octs s).getD (k + 1 - 1) 0) = false) := .inr (by rw [Nat.add_sub_cancel, hg, hbl])
              have HB := hide hbl
              clear hg hbl HR HL
              go_wp2_with (go_at_call 13; refine (zzBlank _ _).mono ?_; rintro e w' ⟨rfl, rfl⟩; rw [unhide HB])
              go_round
              case rel => exact ⟨k + 1, k + 1, by omega, by omega, by omega, by go_num, by go_num, HL2, fun j a b => by omega⟩
              case measure => simp [intOf]; omega
          · obtain rfl : f = k := by omega
            by_cases hSn : f < s.size
            · have hg := Pl.octs_get s f hSn
              by_cases h58 : (s[f].toNat : Int) = 58
              · have HP := hide (unhide HM E true hE1 hE2 (unhide HL) (unhide HR) (key_yes hg h58 (by rw [unhide HN]; exact hSn)))
                clear hg
                go_wp2
                go_ret3
                exact ⟨⟨E, f, true, rfl, unhide HP⟩, rfl⟩
              · have HP := hide (unhide HM E false hE1 hE2 (unhide HL) (unhide HR) (key_no hg h58))
                have h58' : (((s[f].toNat : Nat) : Int) == 58) = false := beq_eq_false_iff_ne.2 h58
                clear hg
                go_wp2
                go_ret3
                exact ⟨⟨E, f, false, rfl, unhide HP⟩, rfl⟩
            · have HP := hide (unhide HM E false hE1 hE2 (unhide HL) (unhide HR) (key_none (by rw [unhide HN]; exact hSn)))
              have hSd : decide ((f : Int) < (s.size : Int)) = false := decide_eq_false (by omega)
              go_wp2
              go_ret3
              exact ⟨⟨E, f, false, rfl, unhide HP⟩, rfl⟩
      · have HM : Hid (ModelTail (octs s) false f r3) := mtail (unhide HN) F5 (by rw [if_neg c5])
        clear F5 G1 G2 G3
        go_wp2
        go_loop [14, 15] (fun e i => ∃ E k : Nat, f ≤ E ∧ E ≤ k ∧ k ≤ r3 ∧ e = .int .i64 E ∧ i = .int .i64 k ∧ Hid (E = f ∨ blankB ((octs s).getD (E - 1) 0) = false) ∧ Hid (∀ j, E ≤ j → j < k → blankB ((octs s).getD j 0) = true)) (fun _ i => r3 - (intOf i).toNat)
        case atStart => exact ⟨f, f, Nat.le_refl _, Nat.le_refl _, by omega, rfl, rfl, .inl rfl, fun j a b => by omega⟩
        case round =>
          obtain ⟨E, k, hE1, hE2, hE3, rfl, rfl, HL, HR⟩ := hrel
          by_cases hlt : k < r3
          · have hks : k < s.size := by omega
            have hg := Pl.octs_get s k hks
            cases hbl : blankB ((s[k].toNat : Nat) : Int) with
            | true =>
              have HR2 := hide (rest_more (unhide HR) hg hbl)
              have HB := hide hbl
              clear hg hbl HR
              go_wp2_with (go_at_call 13; refine (zzBlank _ _).mono ?_; rintro e w' ⟨rfl, rfl⟩; rw [unhide HB])
              go_round
              case rel => exact ⟨E, k + 1, hE1, by omega, by omega, rfl, by go_num, HL, HR2⟩
              case measure => simp [intOf]; omega
            | false =>
              have HL2 : Hid (k + 1 = f ∨ blankB ((octs s).getD (k + 1 - 1) 0) = false) := .inr (by rw [Nat.add_sub_cancel, hg, hbl])
              have HB := hide hbl
              clear hg hbl HR HL
              go_wp2_with (go_at_call 13; refine (zzBlank _ _).mono ?_; rintro e w' ⟨rfl, rfl⟩; rw [unhide HB])
              go_round
              case rel => exact ⟨k + 1, k + 1, by omega, by omega, by omega, by go_num, by go_num, HL2, fun j a b => by omega⟩
              case measure => simp [intOf]; omega
          · obtain rfl : r3 = k := by omega
            by_cases hSn : r3 < s.size
            · have hg := Pl.octs_get s r3 hSn
              by_cases h58 : (s[r3].toNat : Int) = 58
              · have HP := hide (unhide HM E true hE1 hE2 (unhide HL) (unhide HR) (key_yes hg h58 (by rw [unhide HN]; exact hSn)))
                clear hg
                go_wp2
                go_ret3
                exact ⟨⟨E, r3, true, rfl, unhide HP⟩, rfl⟩
              · have HP := hide (unhide HM E false hE1 hE2 (unhide HL) (unhide HR) (key_no hg h58))
                have h58' : (((s[r3].toNat : Nat) : Int) == 58) = false := beq_eq_false_iff_ne.2 h58
                clear hg
                go_wp2
                go_ret3
                exact ⟨⟨E, r3, false, rfl, unhide HP⟩, rfl⟩
            · have HP := hide (unhide HM E false hE1 hE2 (unhide HL) (unhide HR) (key_none (by rw [unhide HN]; exact hSn)))
              have hSd : decide ((r3 : Int) < (s.size : Int)) = false := decide_eq_false (by omega)
              go_wp2
              go_ret3
              exact ⟨⟨E, r3, false, rfl, unhide HP⟩, rfl⟩
    · have F5 := stop_false (unhide G1) (unhide G2) (unhide G3)
      rw [if_pos c2, if_neg c3] at F5
      by_cases c5 : r2 < f
      · have HM : Hid (ModelTail (octs s) false f f) := mtail (unhide HN) F5 (by rw [if_pos c5])
        clear F5 G1 G2 G3
        go_wp2
        go_loop [14, 15] (fun e i => ∃ E k : Nat, f ≤ E ∧ E ≤ k ∧ k ≤ f ∧ e = .int .i64 E ∧ i = .int .i64 k ∧ Hid (E = f ∨ blankB ((octs s).getD (E - 1) 0) = false) ∧ Hid (∀ j, E ≤ j → j < k → blankB ((octs s).getD j 0) = true)) (fun _ i => f - (intOf i).toNat)
        case atStart => exact ⟨f, f, Nat.le_refl _, Nat.le_refl _, by omega, rfl, rfl, .inl rfl, fun j a b => by omega⟩
        case round =>
          obtain ⟨E, k, hE1, hE2, hE3, rfl, rfl, HL, HR⟩ := hrel
          by_cases hlt : k < f
          · have hks : k < s.size := by omega
            have hg := Pl.octs_get s k hks
            cases hbl : blankB ((s[k].toNat : Nat) : Int) with
            | true =>
              have HR2 := hide (rest_more (unhide HR) hg hbl)
              have HB := hide hbl
              clear hg hbl HR
              go_wp2_with (go_at_call 13; refine (zzBlank _ _).mono ?_; rintro e w' ⟨rfl, rfl⟩; rw [unhide HB])
              go_round
              case rel => exact ⟨E, k + 1, hE1, by omega, by omega, rfl, by go_num, HL, HR2⟩
              case measure => simp [intOf]; omega
            | false =>
              have HL2 : Hid (k + 1 = f ∨ blankB ((octs s).getD (k + 1 - 1) 0) = false) := .inr (by rw [Nat.add_sub_cancel, hg, hbl])
              have HB := hide hbl
              clear hg hbl HR HL
              go_wp2_with (go_at_call 13; refine (zzBlank _ _).mono ?_; rintro e w' ⟨rfl, rfl⟩; rw [unhide HB])
              go_round
              case rel => exact ⟨k + 1, k + 1, by omega, by omega, by omega, by go_num, by go_num, HL2, fun j a b => by omega⟩
              case measure => simp [intOf]; omega
          · obtain rfl : f = k := by omega
            by_cases hSn : f < s.size
            · have hg := Pl.octs_get s f hSn
              by_cases h58 : (s[f].toNat : Int) = 58
              · have HP := hide (unhide HM E true hE1 hE2 (unhide HL) (unhide HR) (key_yes hg h58 (by rw [unhide HN]; exact hSn)))
                clear hg
                go_wp2
                go_ret3
                exact ⟨⟨E, f, true, rfl, unhide HP⟩, rfl⟩
              · have HP := hide (unhide HM E false hE1 hE2 (unhide HL) (unhide HR) (key_no hg h58))
                have h58' : (((s[f].toNat : Nat) : Int) == 58) = false := beq_eq_false_iff_ne.2 h58
                clear hg
                go_wp2
                go_ret3
                exact ⟨⟨E, f, false, rfl, unhide HP⟩, rfl⟩
            · have HP := hide (unhide HM E false hE1 hE2 (unhide HL) (unhide HR) (key_none (by rw [unhide HN]; exact hSn)))
              have hSd : decide ((f : Int) < (s.size : Int)) = false := decide_eq_false (by omega)
              go_wp2
              go_ret3
              exact ⟨⟨E, f, false, rfl, unhide HP⟩, rfl⟩
      · have HM : Hid (ModelTail (octs s) false f r2) := mtail (unhide HN) F5 (by rw [if_neg c5])
        clear F5 G1 G2 G3
        go_wp2
        go_loop [14, 15] (fun e i => ∃ E k : Nat, f ≤ E ∧ E ≤ k ∧ k ≤ r2 ∧ e = .int .i64 E ∧ i = .int .i64 k ∧ Hid (E = f ∨ blankB ((octs s).getD (E - 1) 0) = false) ∧ Hid (∀ j, E ≤ j → j < k → blankB ((octs s).getD j 0) = true)) (fun _ i => r2 - (intOf i).toNat)
        case atStart => exact ⟨f, f, Nat.le_refl _, Nat.le_refl _, by omega, rfl, rfl, .inl rfl, fun j a b => by omega⟩
        case round =>
          obtain ⟨E, k, hE1, hE2, hE3, rfl, rfl, HL, HR⟩ := hrel
          by_cases hlt : k < r2
          · have hks : k < s.size := by omega
            have hg := Pl.octs_get s k hks
            cases hbl : blankB ((s[k].toNat : Nat) : Int) with
            | true =>
              have HR2 := hide (rest_more (unhide HR) hg hbl)
              have HB := hide hbl
              clear hg hbl HR
              go_wp2_with (go_at_call 13; refine (zzBlank _ _).mono ?_; rintro e w' ⟨rfl, rfl⟩; rw [unhide HB])
              go_round
              case rel => exact ⟨E, k + 1, hE1, by omega, by omega, rfl, by go_num, HL, HR2⟩
              case measure => simp [intOf]; omega
            | false =>
              have HL2 : Hid (k + 1 = f ∨ blankB ((octs s).getD (k + 1 - 1) 0) = false) := .inr (by rw [Nat.add_sub_cancel, hg, hbl])
              have HB := hide hbl
              clear hg hbl HR HL
              go_wp2_with (go_at_call 13; refine (zzBlank _ _).mono ?_; rintro e w' ⟨rfl, rfl⟩; rw [unhide HB])
              go_round
              case rel => exact ⟨k + 1, k + 1, by omega, by omega, by omega, by go_num, by go_num, HL2, fun j a b => by omega⟩
              case measure => simp [intOf]; omega
          · obtain rfl : r2 = k := by omega
            by_cases hSn : r2 < s.size
            · have hg := Pl.octs_get s r2 hSn
              by_cases h58 : (s[r2].toNat : Int) = 58
              · have HP := hide (unhide HM E true hE1 hE2 (unhide HL) (unhide HR) (key_yes hg h58 (by rw [unhide HN]; exact hSn)))
                clear hg
                go_wp2
                go_ret3
                exact ⟨⟨E, r2, true, rfl, unhide HP⟩, rfl⟩
              · have HP := hide (unhide HM E false hE1 hE2 (unhide HL) (unhide HR) (key_no hg h58))
                have h58' : (((s[r2].toNat : Nat) : Int) == 58) = false := beq_eq_false_iff_ne.2 h58
                clear hg
                go_wp2
                go_ret3
                exact ⟨⟨E, r2, false, rfl, unhide HP⟩, rfl⟩
            · have HP := hide (unhide HM E false hE1 hE2 (unhide HL) (unhide HR) (key_none (by rw [unhide HN]; exact hSn)))
              have hSd : decide ((r2 : Int) < (s.size : Int)) = false := decide_eq_false (by omega)
              go_wp2
              go_ret3
              exact ⟨⟨E, r2, false, rfl, unhide HP⟩, rfl⟩
  · go_wp2_with fail
    refine (firstColon s f false _ hs hf).mono ?_
    rintro e w' ⟨⟨r3, rfl, F3⟩, rfl⟩
    have l3 := F3.le
    have G3 := hide F3
    clear F3
    by_cases c3 : r3 < r1
    · have F5 := stop_false (unhide G1) (unhide G2) (unhide G3)
      rw [if_neg c2, if_pos c3] at F5
      by_cases c5 : r3 < f
      · have HM : Hid (ModelTail (octs s) false f f) := mtail (unhide HN) F5 (by rw [if_pos c5])
        clear F5 G1 G2 G3
        go_wp2
        go_loop [14, 15] (fun e i => ∃ E k : Nat, f ≤ E ∧ E ≤ k ∧ k ≤ f ∧ e = .int .i64 E ∧ i = .int .i64 k ∧ Hid (E = f ∨ blankB ((octs s).getD (E - 1) 0) = false) ∧ Hid (∀ j, E ≤ j → j < k → blankB ((octs s).getD j 0) = true)) (fun _ i => f - (intOf i).toNat)
        case atStart => exact ⟨f, f, Nat.le_refl _, Nat.le_refl _, by omega, rfl, rfl, .inl rfl, fun j a b => by omega⟩
        case round =>
          obtain ⟨E, k, hE1, hE2, hE3, rfl, rfl, HL, HR⟩ := hrel
          by_cases hlt : k < f
          · have hks : k < s.size := by omega
            have hg := Pl.octs_get s k hks
            cases hbl : blankB ((s[k].toNat : Nat) : Int) with
            | true =>
              have HR2 := hide (rest_more (unhide HR) hg hbl)
              have HB := hide hbl
              clear hg hbl HR
              go_wp2_with (go_at_call 13; refine (zzBlank _ _).mono ?_; rintro e w' ⟨rfl, rfl⟩; rw [unhide HB])
              go_round
              case rel => exact ⟨E, k + 1, hE1, by omega, by omega, rfl, by go_num, HL, HR2⟩
              case measure => simp [intOf]; omega
            | false =>
              have HL2 : Hid (k + 1 = f ∨ blankB ((octs s).getD (k + 1 - 1) 0) = false) := .inr (by rw [Nat.add_sub_cancel, hg, hbl])
              have HB := hide hbl
              clear hg hbl HR HL
              go_wp2_with (go_at_call 13; refine (zzBlank _ _).mono ?_; rintro e w' ⟨rfl, rfl⟩; rw [unhide HB])
              go_round
              case rel => exact ⟨k + 1, k + 1, by omega, by omega, by omega, by go_num, by go_num, HL2, fun j a b => by omega⟩
              case measure => simp [intOf]; omega
          · obtain rfl : f = k := by omega
            by_cases hSn : f < s.size
            · have hg := Pl.octs_get s f hSn
              by_cases h58 : (s[f].toNat : Int) = 58
              · have HP := hide (unhide HM E true hE1 hE2 (unhide HL) (unhide HR) (key_yes hg h58 (by rw [unhide HN]; exact hSn)))
                clear hg
                go_wp2
                go_ret3
                exact ⟨⟨E, f, true, rfl, unhide HP⟩, rfl⟩
              · have HP := hide (unhide HM E false hE1 hE2 (unhide HL) (unhide HR) (key_no hg h58))
                have h58' : (((s[f].toNat : Nat) : Int) == 58) = false := beq_eq_false_iff_ne.2 h58
                clear hg
                go_wp2
                go_ret3
                exact ⟨⟨E, f, false, rfl, unhide HP⟩, rfl⟩
            · have HP := hide (unhide HM E false hE1 hE2 (unhide HL) (unhide HR) (key_none (by rw [unhide HN]; exact hSn)))
              have hSd : decide ((f : Int) < (s.size : Int)) = false := decide_eq_false (by omega)
              go_wp2
              go_ret3
              exact ⟨⟨E, f, false, rfl, unhide HP⟩, rfl⟩
      · have HM : Hid (ModelTail (octs s) false f r3) := mtail (unhide HN) F5 (by rw [if_neg c5])
        clear F5 G1 G2 G3
        go_wp2
        go_loop [14, 15] (fun e i => ∃ E k : Nat, f ≤ E ∧ E ≤ k ∧ k ≤ r3 ∧ e = .int .i64 E ∧ i = .int .i64 k ∧ Hid (E = f ∨ blankB ((octs s).getD (E - 1) 0) = false) ∧ Hid (∀ j, E ≤ j → j < k → blankB ((octs s).getD j 0) = true)) (fun _ i => r3 - (intOf i).toNat)
        case atStart => exact ⟨f, f, Nat.le_refl _, Nat.le_refl _, by omega, rfl, rfl, .inl rfl, fun j a b => by omega⟩
        case round =>
          obtain ⟨E, k, hE1, hE2, hE3, rfl, rfl, HL, HR⟩ := hrel
          by_cases hlt : k < r3
          · have hks : k < s.size := by omega
            have hg := Pl.octs_get s k hks
            cases hbl : blankB ((s[k].toNat : Nat) : Int) with
            | true =>
              have HR2 := hide (rest_more (unhide HR) hg hbl)
              have HB := hide hbl
              clear hg hbl HR
              go_wp2_with (go_at_call 13; refine (zzBlank _ _).mono ?_; rintro e w' ⟨rfl, rfl⟩; rw [unhide HB])
              go_round
              case rel => exact ⟨E, k + 1, hE1, by omega, by omega, rfl, by go_num, HL, HR2⟩
              case measure => simp [intOf]; omega
            | false =>
              have HL2 : Hid (k + 1 = f ∨ blankB ((octs s).getD (k + 1 - 1) 0) = false) := .inr (by rw [Nat.add_sub_cancel, hg, hbl])
              have HB := hide hbl
              clear hg hbl HR HL
              go_wp2_with (go_at_call 13; refine (zzBlank _ _).mono ?_; rintro e w' ⟨rfl, rfl⟩; rw [unhide HB])
              go_round
              case rel => exact ⟨k + 1, k + 1, by omega, by omega, by omega, by go_num, by go_num, HL2, fun j a b => by omega⟩
              case measure => simp [intOf]; omega
          · obtain rfl : r3 = k := by omega
            by_cases hSn : r3 < s.size
            · have hg := Pl.octs_get s r3 hSn
              by_cases h58 : (s[r3].toNat : Int) = 58
              · have HP := hide (unhide HM E true hE1 hE2 (unhide HL) (unhide HR) (key_yes hg h58 (by rw [unhide HN]; exact hSn)))
                clear hg
                go_wp2
                go_ret3
                exact ⟨⟨E, r3, true, rfl, unhide HP⟩, rfl⟩
              · have HP := hide (unhide HM E false hE1 hE2 (unhide HL) (unhide HR) (key_no hg h58))
                have h58' : (((s[r3].toNat : Nat) : Int) == 58) = false := beq_eq_false_iff_ne.2 h58
                clear hg
                go_wp2
                go_ret3
                exact ⟨⟨E, r3, false, rfl, unhide HP⟩, rfl⟩
            · have HP := hide (unhide HM E false hE1 hE2 (unhide HL) (unhide HR) (key_none (by rw [unhide HN]; exact hSn)))
              have hSd : decide ((r3 : Int) < (s.size : Int)) = false := decide_eq_false (by omega)
              go_wp2
              go_ret3
              exact ⟨⟨E, r3, false, rfl, unhide HP⟩, rfl⟩
    · have F5 := stop_false (unhide G1) (unhide G2) (unhide G3)
      rw [if_neg c2, if_neg c3] at F5
      by_cases c5 : r1 < f
      · have HM : Hid (ModelTail (octs s) false f f) := mtail (unhide HN) F5 (by rw [if_pos c5])
        clear F5 G1 G2 G3
        go_wp2
        go_loop [14, 15] (fun e i => ∃ E k : Nat, f ≤ E ∧ E ≤ k ∧ k ≤ f ∧ e = .int .i64 E ∧ i = .int .i64 k ∧ Hid (E = f ∨ blankB ((octs s).getD (E - 1) 0) = false) ∧ Hid (∀ j, E ≤ j → j < k → blankB ((octs s).getD j 0) = true)) (fun _ i => f - (intOf i).toNat)
        case atStart => exact ⟨f, f, Nat.le_refl _, Nat.le_refl _, by omega, rfl, rfl, .inl rfl, fun j a b => by omega⟩
        case round =>
          obtain ⟨E, k, hE1, hE2, hE3, rfl, rfl, HL, HR⟩ := hrel
          by_cases hlt : k < f
          · have hks : k < s.size := by omega
            have hg := Pl.octs_get s k hks
            cases hbl : blankB ((s[k].toNat : Nat) : Int) with
            | true =>
              have HR2 := hide (rest_more (unhide HR) hg hbl)
              have HB := hide hbl
              clear hg hbl HR
              go_wp2_with (go_at_call 13; refine (zzBlank _ _).mono ?_; rintro e w' ⟨rfl, rfl⟩; rw [unhide HB])
              go_round
              case rel => exact ⟨E, k + 1, hE1, by omega, by omega, rfl, by go_num, HL, HR2⟩
              case measure => simp [intOf]; omega
            | false =>
              have HL2 : Hid (k + 1 = f ∨ blankB ((octs s).getD (k + 1 - 1) 0) = false) := .inr (by rw [Nat.add_sub_cancel, hg, hbl])
              have HB := hide hbl
              clear hg hbl HR HL
              go_wp2_with (go_at_call 13; refine (zzBlank _ _).mono ?_; rintro e w' ⟨rfl, rfl⟩; rw [unhide HB])
              go_round
              case rel => exact ⟨k + 1, k + 1, by omega, by omega, by omega, by go_num, by go_num, HL2, fun j a b => by omega⟩
              case measure => simp [intOf]; omega
          · obtain rfl : f = k := by omega
            by_cases hSn : f < s.size
            · have hg := Pl.octs_get s f hSn
              by_cases h58 : (s[f].toNat : Int) = 58
              · have HP := hide (unhide HM E true hE1 hE2 (unhide HL) (unhide HR) (key_yes hg h58 (by rw [unhide HN]; exact hSn)))
                clear hg
                go_wp2
                go_ret3
                exact ⟨⟨E, f, true, rfl, unhide HP⟩, rfl⟩
              · have HP := hide (unhide HM E false hE1 hE2 (unhide HL) (unhide HR) (key_no hg h58))
                have h58' : (((s[f].toNat : Nat) : Int) == 58) = false := beq_eq_false_iff_ne.2 h58
                clear hg
                go_wp2
                go_ret3
                exact ⟨⟨E, f, false, rfl, unhide HP⟩, rfl⟩
            · have HP := hide (unhide HM E false hE1 hE2 (unhide HL) (unhide HR) (key_none (by rw [unhide HN]; exact hSn)))
              have hSd : decide ((f : Int) < (s.size : Int)) = false := decide_eq_false (by omega)
              go_wp2
              go_ret3
              exact ⟨⟨E, f, false, rfl, unhide HP⟩, rfl⟩
      · have HM : Hid (ModelTail (octs s) false f r1) := mtail (unhide HN) F5 (by rw [if_neg c5])
        clear F5 G1 G2 G3
        go_wp2
        go_loop [14, 15] (fun e i => ∃ E k : Nat, f ≤ E ∧ E ≤ k ∧ k ≤ r1 ∧ e = .int .i64 E ∧ i = .int .i64 k ∧ Hid (E = f ∨ blankB ((octs s).getD (E - 1) 0) = false) ∧ Hid (∀ j, E ≤ j → j < k → blankB ((octs s).getD j 0) = true)) (fun _ i => r1 - (intOf i).toNat)
        case atStart => exact ⟨f, f, Nat.le_refl _, Nat.le_refl _, by omega, rfl, rfl, .inl rfl, fun j a b => by omega⟩
        case round =>
          obtain ⟨E, k, hE1, hE2, hE3, rfl, rfl, HL, HR⟩ := hrel
          by_cases hlt : k < r1
          · have hks : k < s.size := by omega
            have hg := Pl.octs_get s k hks
            cases hbl : blankB ((s[k].toNat : Nat) : Int) with
            | true =>
              have HR2 := hide (rest_more (unhide HR) hg hbl)
              have HB := hide hbl
              clear hg hbl HR
              go_wp2_with (go_at_call 13; refine (zzBlank _ _).mono ?_; rintro e w' ⟨rfl, rfl⟩; rw [unhide HB])
              go_round
              case rel => exact ⟨E, k + 1, hE1, by omega, by omega, rfl, by go_num, HL, HR2⟩
              case measure => simp [intOf]; omega
            | false =>
              have HL2 : Hid (k + 1 = f ∨ blankB ((octs s).getD (k + 1 - 1) 0) = false) := .inr (by rw [Nat.add_sub_cancel, hg, hbl])
              have HB := hide hbl
              clear hg hbl HR HL
              go_wp2_with (go_at_call 13; refine (zzBlank _ _).mono ?_; rintro e w' ⟨rfl, rfl⟩; rw [unhide HB])
              go_round
              case rel => exact ⟨k + 1, k + 1, by omega, by omega, by omega, by go_num, by go_num, HL2, fun j a b => by omega⟩
              case measure => simp [intOf]; omega
          · obtain rfl : r1 = k := by omega
            by_cases hSn : r1 < s.size
            · have hg := Pl.octs_get s r1 hSn
              by_cases h58 : (s[r1].toNat : Int) = 58
              · have HP := hide (unhide HM E true hE1 hE2 (unhide HL) (unhide HR) (key_yes hg h58 (by rw [unhide HN]; exact hSn)))
                clear hg
                go_wp2
                go_ret3
                exact ⟨⟨E, r1, true, rfl, unhide HP⟩, rfl⟩
              · have HP := hide (unhide HM E false hE1 hE2 (unhide HL) (unhide HR) (key_no hg h58))
                have h58' : (((s[r1].toNat : Nat) : Int) == 58) = false := beq_eq_false_iff_ne.2 h58
                clear hg
                go_wp2
                go_ret3
                exact ⟨⟨E, r1, false, rfl, unhide HP⟩, rfl⟩
            · have HP := hide (unhide HM E false hE1 hE2 (unhide HL) (unhide HR) (key_none (by rw [unhide HN]; exact hSn)))
              have hSd : decide ((r1 : Int) < (s.size : Int)) = false := decide_eq_false (by omega)
              go_wp2
              go_ret3
              exact ⟨⟨E, r1, false, rfl, unhide HP⟩, rfl⟩

end Go.Proofs.Qxb6603404a
