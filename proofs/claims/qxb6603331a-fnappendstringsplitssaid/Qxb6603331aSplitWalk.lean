/-
  THE WALK OF FnAppendStringSplits.
-/
import Derived.Test.Qxb6603331aLaws
import Derived.Deep.QuietTactic
import Derived.BigQuiet
namespace Go.Proofs.Qxb6603331a
open Go.RowKit
open Esc (esc escAll enc octs hexd plainB)
set_option linter.unusedVariables false

/-! ### zzBytes_FnAppendStringSplits -/
theorem bytes14_yes (a : Option Addr) (n c : Nat) (s t : ByteArray) (w : World) (h : n + s.size + t.size ≤ 1048576) :
    Calls Try.prog 14 #[.slice a n c, .string s, .string t] w fun e w' => e = .returned (.bool true) ∧ w = w' := by
  go_enter Try.func14, Try.ntmps14
  go_wp2
  go_ret
  exact ⟨rfl, rfl⟩

set_option maxHeartbeats 400000 in
theorem bytes14_no (a : Option Addr) (n c : Nat) (s t : ByteArray) (w : World) (hn : n ≤ maxLen) (hs : s.size ≤ maxLen) (ht : t.size ≤ maxLen) (h : 1048576 < n + s.size + t.size) :
    Calls Try.prog 14 #[.slice a n c, .string s, .string t] w fun e w' => e = .returned (.bool false) ∧ w = w' := by
  unfold maxLen at hn hs ht
  by_cases h1 : n ≤ 1048576
  · by_cases h2 : s.size ≤ 1048576
    · by_cases h3 : n + s.size ≤ 1048576
      · by_cases h4 : t.size ≤ 1048576
        · go_enter Try.func14, Try.ntmps14
          go_wp2
          go_ret
          exact ⟨rfl, rfl⟩
        · go_enter Try.func14, Try.ntmps14
          go_wp2
          go_ret
          exact ⟨rfl, rfl⟩
      · go_enter Try.func14, Try.ntmps14
        go_wp2
        go_ret
        exact ⟨rfl, rfl⟩
    · go_enter Try.func14, Try.ntmps14
      go_wp2
      go_ret
      exact ⟨rfl, rfl⟩
  · go_enter Try.func14, Try.ntmps14
    go_wp2
    go_ret
    exact ⟨rfl, rfl⟩

/-! ### zzSameBytes, at two rows that hold the same bytes -/
theorem same_bytes (g1 g2 n1 n2 c1 c2 : Nat) (zs : List Int) (w : World) (hn : n1 = n2) (hb : n1 ≤ 4194304) (h1 : ∀ j, j < n1 → w.cell? ⟨g1, j, none⟩ = some (.int .u8 (zs.getD j 0))) (h2 : ∀ j, j < n1 → w.cell? ⟨g2, j, none⟩ = some (.int .u8 (zs.getD j 0))) :
    Calls Try.prog 15 #[.slice (some ⟨g1, 0, none⟩) n1 c1, .slice (some ⟨g2, 0, none⟩) n2 c2] w fun e w' => e = .returned (.bool true) ∧ Below w.heap.size w w' := by
  subst hn
  have H1 := hide h1
  have H2 := hide h2
  clear h1 h2
  go_enter Try.func15, Try.ntmps15
  go_wp2
  go_loopw [5] (fun i wr => ∃ k q : Nat, k ≤ n1 ∧ i = .int .i64 k ∧ wr = w.drewN q) (fun i _ => n1 - (intOf i).toNat)
  case atStart => exact ⟨0, 0, Nat.zero_le _, rfl, rfl⟩
  case round =>
    obtain ⟨k, q, hk, rfl, rfl⟩ := hrel
    by_cases hlt : k < n1
    · have c3 := unhide H1 k hlt
      have c4 := unhide H2 k hlt
      generalize zs.getD k 0 = z at c3 c4
      go_wp2
      go_quiet (fail)
      go_wp2
      go_roundw
      case rel => exact ⟨k + 1, _, by omega, by go_num, rfl⟩
      case measure => simp [intOf]; omega
    · go_wp2
      go_ret
      exact ⟨rfl, (Below.refl _ _).trans ⟨rfl, rfl, rfl, Nat.le_refl _, fun _ _ => rfl⟩⟩

theorem octs_append (s t : ByteArray) : octs (s ++ t) = octs s ++ octs t := by
  simp [octs, ByteArray.data_append]

theorem add_at (g o j : Nat) : (⟨g, o, none⟩ : Addr).add j = ⟨g, o + j, none⟩ := by unfold Addr.add; split <;> simp_all

theorem row_take {w : World} {g L m : Nat} {zs : List Int} (hc : ∀ j, j < L → w.cell? ⟨g, j, none⟩ = some (.int .u8 (zs.getD j 0))) (hm : m ≤ L) : ∀ j u, (cellsOf (zs.take m))[j]? = some u → w.cell? ((⟨g, 0, none⟩ : Addr).add j) = some u := by
  intro j u hu
  have hj := (List.getElem?_eq_some_iff.1 hu).1
  rw [cellsOf_length] at hj
  have hj2 : j < m := by rw [List.length_take] at hj; omega
  rw [cellsOf_get _ j hj] at hu
  rw [add_at, Nat.zero_add, hc j (by omega), ← hu, List.getD, List.getD, List.getElem?_take, if_pos hj2]

theorem row_drop {w : World} {g L k : Nat} {zs : List Int} (hc : ∀ j, j < L → w.cell? ⟨g, j, none⟩ = some (.int .u8 (zs.getD j 0))) (hz : zs.length = L) : ∀ j u, (cellsOf (zs.drop k))[j]? = some u → w.cell? ((⟨g, k, none⟩ : Addr).add j) = some u := by
  intro j u hu
  have hj := (List.getElem?_eq_some_iff.1 hu).1
  rw [cellsOf_length] at hj
  rw [cellsOf_get _ j hj] at hu
  rw [List.length_drop] at hj
  rw [add_at, hc (k + j) (by omega), ← hu, List.getD, List.getD, List.getElem?_drop]

set_option maxHeartbeats 1000000 in
theorem split_walk (a : Option Addr) (n c : Nat) (zs : List Int) (s t : ByteArray) (w : World) (h1 : n ≤ 65536) (h2 : s.size ≤ 65536) (h3 : t.size ≤ 65536) (hR : Reads w a n zs) :
    Calls Try.prog 4 #[.slice a n c, .string s, .string t] w fun e w' => e = .returned (.bool true) ∧ Below w.heap.size w w' := by
  obtain ⟨i0, hi, hz0, hz1, hz2⟩ := info_parts Try.info5
  have hz := hR.1
  have hF0 : ∀ w : World, Full w 0 none 0 [] := fun w => ⟨rfl, fun _ => rfl, fun x hx => by cases hx⟩
  have HF0 := hide hF0
  clear hF0
  go_enter Try.func4, Try.ntmps4
  go_wp2_with fail
  refine (bytes14_yes _ _ _ _ _ _ (by omega)).mono ?_
  rintro e w' ⟨rfl, rfl⟩
  go_wp2_with fail
  refine (clone_any _ _ _ zs _ (by omega) hR).mono ?_
  rintro e w1 ⟨ao, rfl, hF1, hb1⟩
  go_wp2_with fail
  refine (clone_any _ _ _ zs _ (by omega) hF1.reads).mono ?_
  rintro e w2 ⟨ko, rfl, hK2, hb2⟩
  have hF2 := hF1.later hb2 (Nat.zero_le _)
  clear hF1 hR
  go_wp2_with fail
  refine (zz_law _ _ _ zs _ _ hF2 (by omega) (by rw [ByteArray.size_append]; omega)).mono ?_
  rintro e w3 ⟨g1, cap1, L1, rfl, hL1, la1, lb1, lc1, ga1, gb1, hc1, hb3⟩
  go_wp2_with fail
  refine (zz_law _ _ _ [] _ _ (unhide HF0 _) (by omega) (by omega)).mono ?_
  rintro e w4 ⟨g2, cap2, L2, rfl, hL2, la2, lb2, lc2, ga2, gb2, hc2, hb4⟩
  go_wp2_with fail
  refine (zz_law _ _ _ [] _ _ (unhide HF0 _) (by omega) (by omega)).mono ?_
  rintro e w5 ⟨g3, cap3, L3, rfl, hL3, la3, lb3, lc3, ga3, gb3, hc3, hb5⟩
  have hs12 : Hid (L1 = n + (L2 - 1) + (L3 - 1)) := by
    have e1 := hL1.out
    have e2 := hL2.out
    have e3 := hL3.out
    rw [octs_append, Esc.escAll_append, List.length_append] at e1
    show L1 = n + (L2 - 1) + (L3 - 1)
    omega
  have E2 : Hid ((enc (octs s)).length = L2) := by
    have e2 := hL2.out
    show (enc (octs s)).length = L2
    rw [Esc.enc_len]
    omega
  have E3 : Hid ((enc (octs t)).length = L3) := by
    have e3 := hL3.out
    show (enc (octs t)).length = L3
    rw [Esc.enc_len]
    omega
  rw [octs_append] at hc1
  have hlb1 : L1 ≤ n + 6 * (s.size + t.size) + 2 := by rw [ByteArray.size_append] at lb1; exact lb1
  have C1 : Hid (∀ j, j < L1 → w5.cell? ⟨g1, j, none⟩ = some (.int .u8 ((zs ++ enc (octs s ++ octs t)).getD j 0))) := fun j hj => (hb5.cell (p := ⟨g1, j, none⟩) (Nat.lt_of_lt_of_le gb1 hb4.size)).trans ((hb4.cell (p := ⟨g1, j, none⟩) gb1).trans (hc1 j hj))
  have C2 : Hid (∀ j, j < L2 → w5.cell? ⟨g2, j, none⟩ = some (.int .u8 ((enc (octs s)).getD j 0))) := fun j hj => (hb5.cell (p := ⟨g2, j, none⟩) gb2).trans (hc2 j hj)
  have C3 : Hid (∀ j, j < L3 → w5.cell? ⟨g3, j, none⟩ = some (.int .u8 ((enc (octs t)).getD j 0))) := hc3
  have hK5 := ((hK2.later hb3 (Nat.le_refl _)).later hb4 (Nat.le_refl _)).later hb5 (Nat.zero_le _)
  have hB5 : Below w.heap.size w w5 := (((hb1.trans (hb2.mono hb1.size)).trans (hb3.mono (Nat.le_trans hb1.size hb2.size))).trans (hb4.mono (Nat.le_trans (Nat.le_trans hb1.size hb2.size) hb3.size))).trans (hb5.mono (Nat.le_trans (Nat.le_trans (Nat.le_trans hb1.size hb2.size) hb3.size) hb4.size))
  have gg1 : g1 < w5.heap.size := Nat.lt_of_lt_of_le (Nat.lt_of_lt_of_le gb1 hb4.size) hb5.size
  have gg2 : g2 < w5.heap.size := Nat.lt_of_lt_of_le gb2 hb5.size
  clear hc1 hc2 hc3 hb1 hb2 hb3 hb4 hb5 hF2 hK2 ga1 ga2 ga3 gb1 gb2 lb1 hL1 hL2 hL3 HF0
  go_wp2_with (at_make; refine wpList_make_own _ rfl _ _ 22 rfl w5.heap.size 5 i0 (.int .u8 0) 1 Try.underlying22 hi hz0 hz1 _ _ _ (n + L2 + L3) rfl rfl (by omega) (by rw [hz2]; omega) (by unfold maxLen; omega) (Nat.le_refl _) ?_)
  intro w6 hown6 hgrow6
  have hB6 : Below w5.heap.size w5 w6 := (Below.refl _ _).grown hgrow6 (Nat.le_refl _) (by simp)
  have kn : ko = none → n = 0 ∧ n = 0 := fun h => ⟨hK5.2.1 h, hK5.2.1 h⟩
  have kc : ∀ ad, ko = some ad → ∀ j u, (cellsOf zs)[j]? = some u → w6.cell? (ad.add j) = some u := (hK5.later hB6 (Nat.le_refl _)).holds
  have KN := hide kn
  have KC := hide kc
  clear hgrow6 hK5 kn kc
  go_wp2_with (at_builtin; refine wpList_append_fits_any _ rfl (.tmp 60) (.tmp 61) 22 rfl w5.heap.size 5 i0 1 Try.underlying22 hi hz1 w5.heap.size 0 (n + L2 + L3) [] rfl hown6 ko n n (cellsOf zs) rfl (by simp [cellsOf, hz]) (unhide KN) (unhide KC) (cellsOf_one _) (by omega) ?_)
  intro w7 hown7 hgrow7
  have hB7 : Below w5.heap.size w5 w7 := hB6.grown hgrow7 hB6.size (by simp)
  clear hgrow7 hB6 KN KC hown6
  have D2 : Hid (∀ j u, (cellsOf ((enc (octs s)).take (L2 - 1)))[j]? = some u → w7.cell? ((⟨g2, 0, none⟩ : Addr).add j) = some u) := row_take (L := L2) (fun j hj => (hB7.cell (p := ⟨g2, j, none⟩) gg2).trans (unhide C2 j hj)) (by omega)
  go_wp2_with (at_builtin; refine wpList_append_fits _ rfl (.tmp 63) (.tmp 68) 22 rfl w5.heap.size 5 i0 1 Try.underlying22 hi hz1 w5.heap.size n (n + L2 + L3) _ rfl hown7 ⟨g2, 0, none⟩ (L2 - 1) cap2 (cellsOf ((enc (octs s)).take (L2 - 1))) rfl (by rw [cellsOf_length, List.length_take, unhide E2]; omega) (unhide D2) (cellsOf_one _) (by omega) ?_)
  intro w8 hown8 hgrow8
  have hB8 : Below w5.heap.size w5 w8 := hB7.grown hgrow8 hB7.size (by simp)
  have D3 : Hid (∀ j u, (cellsOf ((enc (octs t)).drop 1))[j]? = some u → w8.cell? ((⟨g3, 1, none⟩ : Addr).add j) = some u) := row_drop (L := L3) (fun j hj => (hB8.cell (p := ⟨g3, j, none⟩) gb3).trans (unhide C3 j hj)) (unhide E3)
  clear hgrow8 hB7 hown7 D2
  go_wp2_with (at_builtin; refine wpList_append_fits _ rfl (.tmp 70) (.tmp 72) 22 rfl w5.heap.size 5 i0 1 Try.underlying22 hi hz1 w5.heap.size (n + (L2 - 1)) (n + L2 + L3) _ rfl hown8 ⟨g3, 1, none⟩ (L3 - 1) (cap3 - 1) (cellsOf ((enc (octs t)).drop 1)) rfl (by rw [cellsOf_length, List.length_drop, unhide E3]; omega) (unhide D3) (cellsOf_one _) (by omega) ?_)
  intro w9 hown9 hgrow9
  have hB9 : Below w5.heap.size w5 w9 := hB8.grown hgrow9 hB8.size (by simp)
  clear hgrow9 hB8 hown8 D3
  have hlist : cellsOf zs ++ (cellsOf ((enc (octs s)).take (L2 - 1)) ++ cellsOf (enc (octs t)).tail) = cellsOf (zs ++ enc (octs s ++ octs t)) := by
    rw [Esc.enc_append, unhide E2, cellsOf_append, cellsOf_append, List.drop_one]
  rw [hlist] at hown9
  have hlen : (zs ++ enc (octs s ++ octs t)).length = L1 := by
    have := hown9.1
    rw [cellsOf_length] at this
    rw [this, unhide hs12]
    omega
  have F1 : Hid (∀ j, j < L1 → w9.cell? ⟨g1, j, none⟩ = some (.int .u8 ((zs ++ enc (octs s ++ octs t)).getD j 0))) := fun j hj => (hB9.cell (p := ⟨g1, j, none⟩) gg1).trans (unhide C1 j hj)
  have F2 : Hid (∀ j, j < L1 → w9.cell? ⟨w5.heap.size, j, none⟩ = some (.int .u8 ((zs ++ enc (octs s ++ octs t)).getD j 0))) := fun j hj => by
    rw [hown9.cellAt j (by rw [← unhide hs12]; omega), cellsOf_get _ j (by omega)]
  have hB : Below w.heap.size w w9 := hB5.trans (hB9.mono hB5.size)
  clear hlist hown9 hlen
  go_wp2_with fail
  refine (same_bytes g1 w5.heap.size L1 _ _ _ (zs ++ enc (octs s ++ octs t)) _ (unhide hs12) (by omega) (unhide F1) (unhide F2)).mono ?_
  rintro e w10 ⟨rfl, hb10⟩
  go_wp2
  go_ret
  exact ⟨rfl, hB.trans (hb10.mono hB.size)⟩

/-- Outside the bounds it returns true at once. -/
theorem split_out (a : Option Addr) (n c : Nat) (s t : ByteArray) (w : World) (hn : n ≤ maxLen) (hs : s.size ≤ maxLen) (ht : t.size ≤ maxLen) (h : ¬ (n ≤ 65536 ∧ s.size ≤ 65536 ∧ t.size ≤ 65536)) :
    Calls Try.prog 4 #[.slice a n c, .string s, .string t] w fun e w' => e = .returned (.bool true) ∧ Below w.heap.size w w' := by
  by_cases hb : n + s.size + t.size ≤ 1048576
  · by_cases h1 : n ≤ 65536
    · by_cases h2 : s.size ≤ 65536
      · have h3 : 65536 < t.size := by omega
        go_enter Try.func4, Try.ntmps4
        go_wp2_with (go_at_call 14; refine (bytes14_yes _ _ _ _ _ _ hb).mono ?_; rintro e w' ⟨rfl, rfl⟩)
        go_ret
        exact ⟨rfl, Below.refl _ _⟩
      · have h2' : 65536 < s.size := by omega
        go_enter Try.func4, Try.ntmps4
        go_wp2_with (go_at_call 14; refine (bytes14_yes _ _ _ _ _ _ hb).mono ?_; rintro e w' ⟨rfl, rfl⟩)
        go_ret
        exact ⟨rfl, Below.refl _ _⟩
    · have h1' : 65536 < n := by omega
      go_enter Try.func4, Try.ntmps4
      go_wp2_with (go_at_call 14; refine (bytes14_yes _ _ _ _ _ _ hb).mono ?_; rintro e w' ⟨rfl, rfl⟩)
      go_ret
      exact ⟨rfl, Below.refl _ _⟩
  · go_enter Try.func4, Try.ntmps4
    go_wp2_with (go_at_call 14; refine (bytes14_no _ _ _ _ _ _ hn hs ht (by omega)).mono ?_; rintro e w' ⟨rfl, rfl⟩)
    go_ret
    exact ⟨rfl, Below.refl _ _⟩

end Go.Proofs.Qxb6603331a
