/-
  THE WALK OF FnAppendStringStrictRoundTrip.
-/
import Derived.Test.Qxb6603331aDec
import Derived.Deep.QuietTactic
import Derived.BigQuiet
namespace Go.Proofs.Qxb6603331a
open Go.RowKit
open Esc (esc escAll enc octs hexd pos)
set_option linter.unusedVariables false

/-! ### zzBytes_FnAppendStringStrictRoundTrip -/
theorem bytes10_yes (a : Option Addr) (n c : Nat) (s : ByteArray) (w : World) (h : n + s.size ≤ 1048576) :
    Calls Try.prog 10 #[.slice a n c, .string s] w fun e w' => e = .returned (.bool true) ∧ w = w' := by
  go_enter Try.func10, Try.ntmps10
  go_wp2
  go_ret
  exact ⟨rfl, rfl⟩

theorem bytes10_no (a : Option Addr) (n c : Nat) (s : ByteArray) (w : World) (hn : n ≤ maxLen) (hs : s.size ≤ maxLen) (h : 1048576 < n + s.size) :
    Calls Try.prog 10 #[.slice a n c, .string s] w fun e w' => e = .returned (.bool false) ∧ w = w' := by
  unfold maxLen at hn hs
  by_cases h1 : n ≤ 1048576
  · by_cases h2 : s.size ≤ 1048576
    · go_enter Try.func10, Try.ntmps10
      go_wp2
      go_ret
      exact ⟨rfl, rfl⟩
    · go_enter Try.func10, Try.ntmps10
      go_wp2
      go_ret
      exact ⟨rfl, rfl⟩
  · go_enter Try.func10, Try.ntmps10
    go_wp2
    go_ret
    exact ⟨rfl, rfl⟩

/-- Outside the bounds it returns true at once. -/
theorem trip_out (a : Option Addr) (n c : Nat) (s : ByteArray) (w : World) (hn : n ≤ maxLen) (hs : s.size ≤ maxLen) (h : ¬ (n ≤ 65536 ∧ s.size ≤ 65536)) :
    Calls Try.prog 3 #[.slice a n c, .string s] w fun e w' => e = .returned (.bool true) ∧ Below w.heap.size w w' := by
  by_cases hb : n + s.size ≤ 1048576
  · by_cases h1 : n ≤ 65536
    · have h2 : 65536 < s.size := by omega
      go_enter Try.func3, Try.ntmps3
      go_wp2_with (go_at_call 10; refine (bytes10_yes _ _ _ _ _ hb).mono ?_; rintro e w' ⟨rfl, rfl⟩)
      go_ret
      exact ⟨rfl, Below.refl _ _⟩
    · have h1' : 65536 < n := by omega
      go_enter Try.func3, Try.ntmps3
      go_wp2_with (go_at_call 10; refine (bytes10_yes _ _ _ _ _ hb).mono ?_; rintro e w' ⟨rfl, rfl⟩)
      go_ret
      exact ⟨rfl, Below.refl _ _⟩
  · go_enter Try.func3, Try.ntmps3
    go_wp2_with (go_at_call 10; refine (bytes10_no _ _ _ _ _ hn hs (by omega)).mono ?_; rintro e w' ⟨rfl, rfl⟩)
    go_ret
    exact ⟨rfl, Below.refl _ _⟩

theorem bel_draws {B : Nat} {a w : World} (h : Below B a w) (n : Nat) : Below B a (w.drewN n) := h.trans ⟨rfl, rfl, rfl, Nat.le_refl _, fun _ _ => rfl⟩

set_option maxHeartbeats 1000000 in
theorem trip_walk (a : Option Addr) (n c : Nat) (zs : List Int) (s : ByteArray) (w : World) (h1 : n ≤ 65536) (h2 : s.size ≤ 65536) (hR : Reads w a n zs) :
    Calls Try.prog 3 #[.slice a n c, .string s] w fun e w' => e = .returned (.bool true) ∧ Below w.heap.size w w' := by
  have hz := hR.1
  go_enter Try.func3, Try.ntmps3
  go_wp2_with fail
  refine (bytes10_yes _ _ _ _ _ (by omega)).mono ?_
  rintro e w' ⟨rfl, rfl⟩
  go_wp2_with fail
  refine (clone_any _ _ _ zs _ (by omega) hR).mono ?_
  rintro e w1 ⟨ao, rfl, hF1, hb1⟩
  go_wp2_with fail
  refine (clone_any _ _ _ zs _ (by omega) hF1.reads).mono ?_
  rintro e w2 ⟨ko, rfl, hK2, hb2⟩
  have hF2 := hF1.later hb2 (Nat.zero_le _)
  clear hF1 hR
  go_wp2_with fail
  refine (zz_law _ _ _ zs _ _ hF2 (by omega) (by omega)).mono ?_
  rintro e w3 ⟨g, cap, L, rfl, hL, la, lb, lc, ga, gb, hc, hb3⟩
  have hK3 := hide (hK2.later hb3 (Nat.zero_le _))
  have HC := hide hc
  have hB3 : Below w.heap.size w w3 := (hb1.trans (hb2.mono hb1.size)).trans (hb3.mono (Nat.le_trans hb1.size hb2.size))
  clear hK2 hF2 hb1 hb2 hb3 ga hc
  go_wp2
  go_loopw [7] (fun i wr => ∃ k q : Nat, k ≤ n ∧ i = .int .i64 k ∧ wr = w3.drewN q) (fun i _ => n - (intOf i).toNat)
  case atStart => exact ⟨0, 0, Nat.zero_le _, rfl, rfl⟩
  case round =>
    obtain ⟨k, q, hk, rfl, rfl⟩ := hrel
    by_cases hlt : k < n
    · cases ko with
      | none => exact absurd ((unhide hK3).2.1 rfl) (by omega)
      | some x =>
        obtain ⟨gk, rfl, _, _, hck⟩ := (unhide hK3).2.2 x rfl
        have c3 := unhide HC k (by omega)
        have c4 := hck k hlt
        have e : (zs ++ enc (octs s)).getD k 0 = zs.getD k 0 := by
          rw [List.getD, List.getD, List.getElem?_append_left (by omega)]
        rw [e] at c3
        clear hck e
        generalize zs.getD k 0 = z at c3 c4
        have hkL : (k : Int) < (L : Int) := by omega
        go_wp2
        go_quiet (fail)
        go_wp2
        go_roundw
        case rel => exact ⟨k + 1, _, by omega, by go_num, rfl⟩
        case measure => simp [intOf]; omega
    obtain rfl : n = k := by omega
    go_wp2_with fail
    have hEn : (enc (octs s)).length = L - n := by rw [Esc.enc_len]; have := hL.out; omega
    have hEc : ∀ j, j < L - n → (w3.drewN q).cell? ⟨g, n + j, none⟩ = some (.int .u8 ((enc (octs s)).getD j 0)) := fun j hj => by
      rw [World.cell?_drewN, unhide HC (n + j) (by omega)]
      subst hz
      rw [Esc.getD_behind]
    refine (decode_enc g n (cap - n) (L - n) (octs s) (w3.drewN q) (Esc.octs_bound s) hEn (by omega) gb hEc).mono ?_
    rintro e w4 ⟨rfl, hown4, hb4⟩
    have hB4 : Below w.heap.size w w4 := (bel_draws hB3 q).trans (hb4.mono hB3.size)
    have c4 : Hid (∀ k (h : k < s.size), w4.cell? ⟨w3.heap.size, k, none⟩ = some (.int .u8 ((s[k].toNat : Nat) : Int))) := fun k h => by
      have := hown4.cellAt k (by rw [Esc.octs_length]; omega)
      rw [cellsOf_get _ k (by rw [Esc.octs_length]; exact h)] at this
      rw [List.getD, Esc.octs_get s k h] at this
      exact this
    rw [Esc.octs_length]
    clear hown4 hb4 hEn hEc HC hK3
    go_wp2
    go_loopw [10] (fun i wr => ∃ k q : Nat, k ≤ s.size ∧ i = .int .i64 k ∧ wr = w4.drewN q) (fun i _ => s.size - (intOf i).toNat)
    case atStart => exact ⟨0, 0, Nat.zero_le _, rfl, rfl⟩
    case round =>
      obtain ⟨k, q2, hk2, rfl, rfl⟩ := hrel
      by_cases hlt2 : k < s.size
      · have c5 := unhide c4 k hlt2
        go_wp2
        go_quiet (fail)
        go_wp2
        go_roundw
        case rel => exact ⟨k + 1, _, by omega, by go_num, rfl⟩
        case measure => simp [intOf]; omega
      · go_wp2
        go_ret
        exact ⟨rfl, bel_draws hB4 q2⟩

end Go.Proofs.Qxb6603331a
