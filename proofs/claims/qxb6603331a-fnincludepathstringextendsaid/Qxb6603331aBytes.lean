import Derived.Test.Qxb6603331aRows
import Derived.WalkKit
import Derived.ProofKit
import Derived.Below
import Derived.Outline
import Derived.Lib.AppendStr
import Derived.Deep.AppendLies
import Derived.Deep.RegionLaw
import Derived.WalkSpells
namespace Go.Proofs.Qxb6603331a
open Go.RowKit
set_option linter.unusedVariables false

theorem hide {p : Prop} (h : p) : Hid p := h
theorem unhide {p : Prop} (h : Hid p) : p := h
theorem Try.info5 : (Try.prog.info? 5).map (fun i => (i.zero, i.size, i.bytes)) = some (some (.int .u8 0), 1, 1) := by kernel_rfl

/-! ### zzBytes_FnAppendStringLengthBounds -/
theorem bytes16_yes (a : Option Addr) (n c : Nat) (s : ByteArray) (w : World) (h : n + s.size ≤ 1048576) :
    Calls Try.prog 16 #[.slice a n c, .string s] w fun e w' => e = .returned (.bool true) ∧ w = w' := by
  go_enter Try.func16, Try.ntmps16
  go_wp2
  go_ret
  exact ⟨rfl, rfl⟩

theorem bytes16_no (a : Option Addr) (n c : Nat) (s : ByteArray) (w : World) (hn : n ≤ maxLen) (hs : s.size ≤ maxLen) (h : 1048576 < n + s.size) :
    Calls Try.prog 16 #[.slice a n c, .string s] w fun e w' => e = .returned (.bool false) ∧ w = w' := by
  unfold maxLen at hn hs
  by_cases h1 : n ≤ 1048576
  · by_cases h2 : s.size ≤ 1048576
    · go_enter Try.func16, Try.ntmps16
      go_wp2
      go_ret
      exact ⟨rfl, rfl⟩
    · go_enter Try.func16, Try.ntmps16
      go_wp2
      go_ret
      exact ⟨rfl, rfl⟩
  · go_enter Try.func16, Try.ntmps16
    go_wp2
    go_ret
    exact ⟨rfl, rfl⟩

/-! ### zzCloneBytes -/
/-- Bytes as cells. -/
def cellsOf (zs : List Int) : List Value := zs.map (Value.int .u8)

theorem cellsOf_length (zs : List Int) : (cellsOf zs).length = zs.length := by simp [cellsOf]
theorem cellsOf_append (a b : List Int) : cellsOf (a ++ b) = cellsOf a ++ cellsOf b := by simp [cellsOf]
theorem cellsOf_get (zs : List Int) (j : Nat) (h : j < zs.length) : (cellsOf zs)[j]? = some (.int .u8 (zs.getD j 0)) := by
  simp [cellsOf, List.getD, h]

/-- The first k bytes of zs, noughts behind them. -/
def filled (zs : List Int) (k : Nat) : List Int := zs.take k ++ List.replicate (zs.length - k) 0

theorem filled_zero (zs : List Int) : cellsOf (filled zs 0) = List.replicate zs.length (Value.int .u8 0) := by simp [filled, cellsOf]
theorem filled_all (zs : List Int) : filled zs zs.length = zs := by simp [filled]
theorem filled_length (zs : List Int) (k : Nat) (h : k ≤ zs.length) : (filled zs k).length = zs.length := by
  simp [filled]
  omega
theorem filled_set (zs : List Int) (k : Nat) (h : k < zs.length) : (cellsOf (filled zs k)).set k (.int .u8 (zs.getD k 0)) = cellsOf (filled zs (k + 1)) := by
  have e1 : zs.length - k = (zs.length - (k + 1)) + 1 := by omega
  have e2 : zs.take (k + 1) = zs.take k ++ [zs.getD k 0] := by
    rw [List.take_add_one]
    simp [List.getD, h]
  have e3 : (cellsOf (zs.take k)).length = k := by rw [cellsOf_length, List.length_take]; omega
  rw [filled, filled, e1, List.replicate_succ, e2, cellsOf_append, cellsOf_append, cellsOf_append, List.set_append_right _ _ (by omega), e3]
  simp [cellsOf]

/-- What can be read behind a slice of bytes: 'zs' are its elements. -/
def Reads (w : World) (a : Option Addr) (n : Nat) (zs : List Int) : Prop :=
  zs.length = n ∧ (a = none → n = 0) ∧ (n = 0 ∨ ∃ b off, a = some ⟨b, off, none⟩ ∧ b < w.heap.size ∧ ∀ i, i < n → w.cell? ⟨b, off + i, none⟩ = some (.int .u8 (zs.getD i 0)))

theorem clone_nil (w : World) (c : Nat) : Calls Try.prog 11 #[.slice none 0 c] w fun e w' => e = .returned (.slice none 0 0) ∧ w' = w := by
  have hnil := fun (w : World) (a : Option Addr) (n c : Nat) => Lib.run_eql_slice_nil (P := Try.prog) w 22 5 a n c 0 0 Try.underlying22
  go_enter Try.func11, Try.ntmps11
  go_wp2
  go_ret
  exact ⟨rfl, rfl⟩

set_option maxHeartbeats 400000 in
theorem clone_some (x : Addr) (n c : Nat) (zs : List Int) (w : World) (hz : zs.length = n) (hn : n ≤ 1048576)
    (hr : n = 0 ∨ ∃ b off, x = ⟨b, off, none⟩ ∧ b < w.heap.size ∧ ∀ i, i < n → w.cell? ⟨b, off + i, none⟩ = some (.int .u8 (zs.getD i 0))) :
    Calls Try.prog 11 #[.slice (some x) n c] w fun e w' => e = .returned (.slice (some ⟨w.heap.size, 0, none⟩) n n) ∧
      w'.ownsRow w.heap.size 5 1 (.slice (some ⟨w.heap.size, 0, none⟩) n n) n (cellsOf zs) ∧ w.grownBy w' none := by
  obtain ⟨i0, hi, hz0, hz1, hz2⟩ := info_parts Try.info5
  have hnil := fun (w : World) (a : Option Addr) (n c : Nat) => Lib.run_eql_slice_nil (P := Try.prog) w 22 5 a n c 0 0 Try.underlying22
  go_enter Try.func11, Try.ntmps11
  go_wp2_with (at_make; refine wpList_make_full _ rfl _ _ 22 rfl w.heap.size 5 i0 (.int .u8 0) 1 Try.underlying22 hi hz0 hz1 _ _ _ _ n rfl rfl (by omega) (by omega) (by rw [hz2]; omega) (by unfold maxLen; omega) (Nat.le_refl _) ?_)
  intro w1 hown hgrow
  rw [toList_madeCells_one, ← hz, ← filled_zero, hz] at hown
  have hbel : Below w.heap.size w w1 := (Below.refl _ _).grown hgrow (Nat.le_refl _) (by simp)
  clear hgrow
  go_wp2
  go_loopw [4] (fun i wr => ∃ k : Nat, k ≤ n ∧ i = .int .i64 k ∧ wr.ownsRow w.heap.size 5 1 (.slice (some ⟨w.heap.size, 0, none⟩) n n) n (cellsOf (filled zs k)) ∧ Below w.heap.size w wr) (fun i _ => n - (intOf i).toNat)
  case atStart => exact ⟨0, Nat.zero_le _, rfl, hown, hbel⟩
  case round =>
    obtain ⟨k, hk, rfl, hownr, hbelr⟩ := hrel
    by_cases hlt : k < n
    · obtain ⟨b, off, rfl, hb, hc⟩ := hr.resolve_left (by omega)
      have hck : wr.cell? ⟨b, off + k, none⟩ = some (.int .u8 (zs.getD k 0)) := (hbelr.cell hb).trans (hc k hlt)
      have hcd : wr.cell? ⟨w.heap.size, k, none⟩ = some (.int .u8 ((filled zs k).getD k 0)) := by
        rw [hownr.cellAt k (by omega), cellsOf_get _ _ (by rw [filled_length _ _ (by omega)]; omega)]
      have hfd : wr.frozen? ⟨w.heap.size, k, none⟩ = false := hownr.frozenAt k
      have R := hownr.stored k (.int .u8 (zs.getD k 0))
      rw [filled_set zs k (by omega)] at R
      have R2 := hbelr.grown R.2 hbelr.size (by simp)
      have R1 := R.1
      clear R hc hown hbel
      generalize zs.getD k 0 = z at hck R1 R2
      generalize (filled zs k).getD k 0 = z' at hcd
      go_wp2
      go_roundw
      case rel => exact ⟨k + 1, by omega, by go_num, R1, R2⟩
      case measure => simp [intOf]; omega
    · obtain rfl : k = n := by omega
      have e : filled zs k = zs := by rw [← hz]; exact filled_all zs
      rw [e] at hownr
      go_wp2
      go_ret
      exact ⟨rfl, hownr, ⟨hbelr.os, hbelr.tape, hbelr.output, hbelr.size, fun j hj _ => hbelr.block j hj⟩⟩

end Go.Proofs.Qxb6603331a
