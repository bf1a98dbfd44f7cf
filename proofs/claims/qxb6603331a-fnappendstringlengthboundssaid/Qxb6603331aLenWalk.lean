/-
  THE WALK OF FnAppendStringLengthBounds, at inputs within its bounds.
-/
import Derived.Test.Qxb6603331aLaws
import Derived.Deep.QuietTactic
import Derived.BigQuiet
namespace Go.Proofs.Qxb6603331a
open Go.RowKit
open Esc (esc escAll enc octs hexd plainB)
set_option linter.unusedVariables false

theorem bel_drewN {B : Nat} {a w : World} (h : Below B a w) (n : Nat) : Below B a (w.drewN n) := h.trans ⟨rfl, rfl, rfl, Nat.le_refl _, fun _ _ => rfl⟩

set_option maxHeartbeats 1000000 in
theorem len_walk (a : Option Addr) (n c : Nat) (zs : List Int) (s : ByteArray) (w : World) (h1 : n ≤ 65536) (h2 : s.size ≤ 65536) (hR : Reads w a n zs) :
    Calls Try.prog 5 #[.slice a n c, .string s] w fun e w' => e = .returned (.bool true) ∧ Below w.heap.size w w' := by
  go_enter Try.func5, Try.ntmps5
  go_wp2_with (first
    | (go_at_call 16; refine (bytes16_yes _ _ _ _ _ (by omega)).mono ?_; rintro e w' ⟨rfl, rfl⟩)
    | (go_at_call 11; refine (clone_any _ _ _ zs _ (by omega) hR).mono ?_; rintro e w1 ⟨ao, rfl, hF, hb1⟩)
    | (go_at_call 12; refine (zz_law _ _ _ zs _ _ hF (by omega) (by omega)).mono ?_; rintro e w2 ⟨g, cap, L, rfl, hL, hL1, hL2, hcap, hg1, hg2, hcell, hb2⟩))
  have hz := hR.1
  have hb3 : Below w.heap.size w w2 := hb1.trans (hb2.mono hb1.size)
  have hge : ∀ k, n ≤ k → k < L → 32 ≤ (zs ++ enc (octs s)).getD k 0 := fun k a b => Esc.tail_ge zs s n k hz a (by rw [← hL.out]; exact b)
  have Hge := hide hge
  have Hcell := hide hcell
  clear hR hF hb1 hb2 hge hcell hg1 hg2
  go_loop [8] (fun i => ∃ k : Nat, n ≤ k ∧ k ≤ L ∧ i = .int .i64 k) (fun i => L - (intOf i).toNat)
  case atStart => exact ⟨n, Nat.le_refl _, by omega, rfl⟩
  case round =>
    obtain ⟨k, hk1, hk2, rfl⟩ := hrel
    by_cases hlt : k < L
    · have hc := unhide Hcell k hlt
      have hv := unhide Hge k hk1 hlt
      generalize (zs ++ enc (octs s)).getD k 0 = z at hc hv
      go_wp2
      go_round
      case rel => exact ⟨k + 1, by omega, by omega, by go_num⟩
      case measure => simp [intOf]; omega
    obtain rfl : L = k := by omega
    go_wp2
    go_loop [9, 10] (fun p i => ∃ k : Nat, k ≤ s.size ∧ i = .int .i64 k ∧ p = .bool (((octs s).take k).all plainB)) (fun _ i => s.size - (intOf i).toNat)
    case atStart => exact ⟨0, Nat.zero_le _, rfl, rfl⟩
    case round =>
      obtain ⟨k, hk, rfl, rfl⟩ := hrel
      by_cases hlt2 : k < s.size
      · have hs := hide (Esc.all_succ s k hlt2)
        cases hp : plainB ((s[k].toNat : Nat) : Int) with
        | true =>
          obtain ⟨p1, p2, p3⟩ := Esc.plainB_true hp
          have p4 : (((s[k].toNat : Nat) : Int) == 34) = false := beq_eq_false_iff_ne.2 p2
          have p5 : (((s[k].toNat : Nat) : Int) == 92) = false := beq_eq_false_iff_ne.2 p3
          have e := hide (show ((octs s).take (k + 1)).all plainB = ((octs s).take k).all plainB by rw [unhide hs, hp, Bool.and_true])
          clear hs hp
          generalize hpb : ((octs s).take k).all plainB = pb
          have Hpb := hide hpb
          clear hpb
          go_wp2
          go_round
          case rel => exact ⟨k + 1, by omega, by go_num, by rw [unhide e, unhide Hpb]⟩
          case measure => simp [intOf]; omega
        | false =>
          have hq := Esc.plainB_false hp
          have e := hide (show ((octs s).take (k + 1)).all plainB = false by rw [unhide hs, hp, Bool.and_false])
          clear hs hp
          generalize ((octs s).take k).all plainB = pb
          by_cases q1 : (s[k].toNat : Int) < 32
          · go_wp2
            go_round
            case rel => exact ⟨k + 1, by omega, by go_num, by rw [unhide e]⟩
            case measure => simp [intOf]; omega
          · by_cases q2 : (s[k].toNat : Int) = 34
            · go_wp2
              go_round
              case rel => exact ⟨k + 1, by omega, by go_num, by rw [unhide e]⟩
              case measure => simp [intOf]; omega
            · have q3 : (s[k].toNat : Int) = 92 := by omega
              go_wp2
              go_round
              case rel => exact ⟨k + 1, by omega, by go_num, by rw [unhide e]⟩
              case measure => simp [intOf]; omega
      obtain rfl : k = s.size := by omega
      rw [Esc.all_end]
      cases hp : (octs s).all plainB with
      | false =>
        have hm := Esc.escAll_some hp
        rw [Esc.octs_length] at hm
        have hne : ((L : Int) - n == (s.size : Int) + 2) = false := beq_eq_false_iff_ne.2 (by have := hL.out; omega)
        clear hp
        go_wp2
        go_ret
        exact ⟨rfl, hb3⟩
      | true =>
        have hE := Esc.escAll_all hp
        have hLn : L = n + s.size + 2 := by
          have h := hL.out
          rw [hE, Esc.octs_length] at h
          exact h
        have heq : ((L : Int) - n == (s.size : Int) + 2) = true := beq_iff_eq.2 (by omega)
        have c0 : w2.cell? ⟨g, n, none⟩ = some (.int .u8 34) := by
          rw [unhide Hcell n (by omega), Esc.tail_first zs _ n hz]
        have c1 : w2.cell? ⟨g, L - 1, none⟩ = some (.int .u8 34) := by
          rw [unhide Hcell (L - 1) (by omega), Esc.tail_last zs _ n (L - 1) hz (by rw [hE, Esc.octs_length]; omega)]
        have c2 : ∀ k (h : k < s.size), w2.cell? ⟨g, n + 1 + k, none⟩ = some (.int .u8 ((s[k].toNat : Nat) : Int)) := fun k h => by
          rw [unhide Hcell (n + 1 + k) (by omega), Esc.tail_mid zs s n k hz hp h]
        have C2 := hide c2
        have HLn := hide hLn
        clear hp c2 hE hLn Hcell Hge
        go_wp2
        go_loopw [12] (fun i wr => ∃ k q : Nat, k ≤ s.size ∧ i = .int .i64 k ∧ wr = w2.drewN q) (fun i _ => s.size - (intOf i).toNat)
        case atStart => exact ⟨0, 0, Nat.zero_le _, rfl, rfl⟩
        case round =>
          obtain ⟨k, q, hk, rfl, rfl⟩ := hrel
          by_cases hlt3 : k < s.size
          · have c3 := unhide C2 k hlt3
            have e1 := unhide HLn
            have i1 : (0 : Int) ≤ (n : Int) + 1 + (k : Int) := by omega
            have i2 : (n : Int) + 1 + (k : Int) < (L : Int) := by omega
            clear e1
            go_wp2
            go_quiet (fail)
            go_wp2
            go_roundw
            case rel => exact ⟨k + 1, _, by omega, by go_num, rfl⟩
            case measure => simp [intOf]; omega
          · go_wp2
            go_ret
            exact ⟨rfl, bel_drewN hb3 q⟩

/-- Outside the bounds it returns true at once. -/
theorem len_out (a : Option Addr) (n c : Nat) (s : ByteArray) (w : World) (hn : n ≤ maxLen) (hs : s.size ≤ maxLen) (h : ¬ (n ≤ 65536 ∧ s.size ≤ 65536)) :
    Calls Try.prog 5 #[.slice a n c, .string s] w fun e w' => e = .returned (.bool true) ∧ Below w.heap.size w w' := by
  by_cases hb : n + s.size ≤ 1048576
  · by_cases h1 : n ≤ 65536
    · have h2 : 65536 < s.size := by omega
      go_enter Try.func5, Try.ntmps5
      go_wp2_with (go_at_call 16; refine (bytes16_yes _ _ _ _ _ hb).mono ?_; rintro e w' ⟨rfl, rfl⟩)
      go_ret
      exact ⟨rfl, Below.refl _ _⟩
    · have h1' : 65536 < n := by omega
      go_enter Try.func5, Try.ntmps5
      go_wp2_with (go_at_call 16; refine (bytes16_yes _ _ _ _ _ hb).mono ?_; rintro e w' ⟨rfl, rfl⟩)
      go_ret
      exact ⟨rfl, Below.refl _ _⟩
  · go_enter Try.func5, Try.ntmps5
    go_wp2_with (go_at_call 16; refine (bytes16_no _ _ _ _ _ hn hs (by omega)).mono ?_; rintro e w' ⟨rfl, rfl⟩)
    go_ret
    exact ⟨rfl, Below.refl _ _⟩

end Go.Proofs.Qxb6603331a
