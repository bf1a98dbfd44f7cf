/-
  THE WALKS OVER A SLICE OF LINKS: zzBytes, zzCloneLinks, zzBuildPath, zzSep.
-/
import Derived.Test.Qxb6603331aString
namespace Go.Proofs.Qxb6603331a
open Go.RowKit
open Path (sep full item parts glue sizes)
set_option linter.unusedVariables false

/-- What can be read behind a slice of links. -/
def Links (w : World) (a : Option Addr) (n : Nat) (Nm : Nat → ByteArray) (Nd : Nat → Bool) : Prop :=
  (a = none → n = 0) ∧ (∀ i, i < n → (Nm i).size ≤ 9223372036854775807) ∧
  (n = 0 ∨ ∃ b off, a = some ⟨b, off, none⟩ ∧ b < w.heap.size ∧ ∀ i, i < n → w.cell? ⟨b, off + i * 2, none⟩ = some (.string (Nm i)) ∧ w.cell? ⟨b, off + i * 2 + 1, none⟩ = some (.bool (Nd i)))

/-- An answer that is a bool; where it is true, p holds. -/
def SomeBool (p : Prop) (e : Ending) : Prop := ∃ b : Bool, e = .returned (.bool b) ∧ (b = true → p)
theorem SomeBool.no {p : Prop} : SomeBool p (.returned (.bool false)) := ⟨false, rfl, fun h => by cases h⟩
theorem SomeBool.yes {p : Prop} (h : p) : SomeBool p (.returned (.bool true)) := ⟨true, rfl, fun _ => h⟩

/-! ### zzSep -/
theorem zzSep (b : Bool) (w : World) : Calls Try.prog 21 #[.bool b] w fun e w' => e = .returned (.string (sep b)) ∧ w = w' := by
  cases b with
  | true =>
    go_enter Try.func21, Try.ntmps21
    go_wp2
    go_ret
    exact ⟨rfl, rfl⟩
  | false =>
    go_enter Try.func21, Try.ntmps21
    go_wp2
    go_ret
    exact ⟨rfl, rfl⟩

/-! ### zzBytes_FnIncludePathStringSpec -/
theorem bytes17 (a : Option Addr) (n c : Nat) (Nm : Nat → ByteArray) (Nd : Nat → Bool) (w : World) (hn : n ≤ maxLen) (hL : Links w a n Nm Nd) :
    Calls Try.prog 17 #[.slice a n c] w fun e w' => SomeBool (n + sizes Nm n ≤ 1048576) e ∧ w = w' := by
  unfold maxLen at hn
  have HL := hide hL
  clear hL
  by_cases h1 : n ≤ 1048576
  · go_enter Try.func17, Try.ntmps17
    go_wp2
    go_loop [3, 4] (fun t i => ∃ k m : Nat, k ≤ n ∧ m ≤ 1048576 ∧ Hid (m = n + sizes Nm k) ∧ t = .int .i64 m ∧ i = .int .i64 k) (fun _ i => n - (intOf i).toNat)
    case atStart => exact ⟨0, n, Nat.zero_le _, h1, rfl, rfl, rfl⟩
    case round =>
      obtain ⟨k, m, hk, hm, HM, rfl, rfl⟩ := hrel
      by_cases hlt : k < n
      · obtain ⟨_, hb, hr⟩ := unhide HL
        obtain ⟨b, off, rfl, hbw, hc⟩ := hr.resolve_left (by omega)
        have hc1 := (hc k hlt).1
        have hs := hb k hlt
        clear hc hr hb
        have HM2 : Hid (m + (Nm k).size = n + sizes Nm (k + 1)) := by
          have := unhide HM
          show m + (Nm k).size = n + sizes Nm (k + 1)
          rw [sizes]
          omega
        clear HM
        generalize Nm k = x at hc1 hs HM2
        go_wp2
        · go_ret
          exact ⟨SomeBool.no, rfl⟩
        · go_ret
          exact ⟨SomeBool.no, rfl⟩
        · go_round
          case rel => exact ⟨k + 1, m + x.size, by omega, by omega, HM2, by go_num, by go_num⟩
          case measure => simp [intOf]; omega
      · obtain rfl : n = k := by omega
        go_wp2
        go_ret
        exact ⟨SomeBool.yes (by have := unhide HM; omega), rfl⟩
  · go_enter Try.func17, Try.ntmps17
    go_wp2
    go_ret
    exact ⟨SomeBool.no, rfl⟩

/-! ### zzBytes_FnIncludePathStringExtend -/
theorem bytes22 (a : Option Addr) (n c : Nat) (name : ByteArray) (nd : Bool) (Nm : Nat → ByteArray) (Nd : Nat → Bool) (w : World) (hn : n ≤ maxLen) (hnm : name.size ≤ maxLen) (hL : Links w a n Nm Nd) :
    Calls Try.prog 22 #[.slice a n c, .string name, .bool nd] w fun e w' => SomeBool (n + sizes Nm n + name.size ≤ 1048576) e ∧ w = w' := by
  unfold maxLen at hn hnm
  have HL := hide hL
  clear hL
  by_cases h1 : n ≤ 1048576
  · go_enter Try.func22, Try.ntmps22
    go_wp2
    go_loop [7, 8] (fun t i => ∃ k m : Nat, k ≤ n ∧ m ≤ 1048576 ∧ Hid (m = n + sizes Nm k) ∧ t = .int .i64 m ∧ i = .int .i64 k) (fun _ i => n - (intOf i).toNat)
    case atStart => exact ⟨0, n, Nat.zero_le _, h1, rfl, rfl, rfl⟩
    case round =>
      obtain ⟨k, m, hk, hm, HM, rfl, rfl⟩ := hrel
      by_cases hlt : k < n
      · obtain ⟨_, hb, hr⟩ := unhide HL
        obtain ⟨b, off, rfl, hbw, hc⟩ := hr.resolve_left (by omega)
        have hc1 := (hc k hlt).1
        have hs := hb k hlt
        clear hc hr hb
        have HM2 : Hid (m + (Nm k).size = n + sizes Nm (k + 1)) := by
          have := unhide HM
          show m + (Nm k).size = n + sizes Nm (k + 1)
          rw [sizes]
          omega
        clear HM
        generalize Nm k = x at hc1 hs HM2
        go_wp2
        · go_ret
          exact ⟨SomeBool.no, rfl⟩
        · go_ret
          exact ⟨SomeBool.no, rfl⟩
        · go_round
          case rel => exact ⟨k + 1, m + x.size, by omega, by omega, HM2, by go_num, by go_num⟩
          case measure => simp [intOf]; omega
      · obtain rfl : n = k := by omega
        go_wp2
        · go_ret
          exact ⟨SomeBool.no, rfl⟩
        · go_ret
          exact ⟨SomeBool.no, rfl⟩
        · go_ret
          exact ⟨SomeBool.yes (by have := unhide HM; omega), rfl⟩
  · go_enter Try.func22, Try.ntmps22
    go_wp2
    go_ret
    exact ⟨SomeBool.no, rfl⟩

end Go.Proofs.Qxb6603331a
