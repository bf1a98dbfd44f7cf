/-
  zzBuildPath.
-/
import Derived.Test.Qxb6603331aClone
import Derived.BigRegion
namespace Go.Proofs.Qxb6603331a
open Go.RowKit
open Path (sep full item parts glue sizes)
set_option linter.unusedVariables false

theorem ptr_form (G : Nat → Nat) (k : Nat) : ∃ u, ptrAt G k = .pointer u := by
  cases k with
  | zero => exact ⟨none, rfl⟩
  | succ k => exact ⟨_, rfl⟩

/-- One link more, laid in a new block. -/
theorem Chain.grow {wr : World} {G : Nat → Nat} {Nm : Nat → ByteArray} {Nd : Nat → Bool} {k : Nat} {u : Option Addr} {nm : ByteArray} {nd : Bool} (h : Chain wr G Nm Nd k) (hg : wr.heap.size = G k) (hu : ptrAt G k = .pointer u) (h1 : Nm k = nm) (h2 : Nd k = nd) :
    Chain (wr.alloc (.cells #[.pointer u, .string nm, .bool nd] 41)) G Nm Nd (k + 1) := by
  intro i hi
  by_cases e : i = k
  · subst e
    rw [← hg, hu, h1, h2]
    refine ⟨by simp, by simp, by simp, by simp⟩
  · have hb : Below wr.heap.size wr (wr.alloc (.cells #[.pointer u, .string nm, .bool nd] 41)) := (Below.refl _ _).alloc (Nat.le_refl _) _
    exact h.later hb i (by omega)

set_option maxHeartbeats 1000000 in
theorem buildPath (a : Option Addr) (n c : Nat) (Nm : Nat → ByteArray) (Nd : Nat → Bool) (w : World) (hn : n ≤ 1048576) (hL : Links w a n Nm Nd) :
    Calls Try.prog 19 #[.slice a n c] w fun e w' => e = .returned (ptrAt (fun i => w.heap.size + i) n) ∧ Chain w' (fun i => w.heap.size + i) Nm Nd n ∧ Below w.heap.size w w' := by
  have HL := hide hL
  clear hL
  obtain ⟨G, hG⟩ : ∃ G : Nat → Nat, G = fun i => w.heap.size + i := ⟨_, rfl⟩
  rw [← hG]
  have HG := hide hG
  clear hG
  go_enter Try.func19, Try.ntmps19
  go_wp2
  go_loopw [3, 4] (fun p i wr => ∃ k : Nat, k ≤ n ∧ p = ptrAt G k ∧ i = .int .i64 k ∧ Hid (wr.heap.size = w.heap.size + k) ∧ Hid (Chain wr G Nm Nd k) ∧ Below w.heap.size w wr) (fun _ i _ => n - (intOf i).toNat)
  case atStart => exact ⟨0, Nat.zero_le _, rfl, rfl, rfl, fun i hi => by omega, Below.refl _ _⟩
  case round =>
    obtain ⟨k, hk, rfl, rfl, HS, HC, hbel⟩ := hrel
    by_cases hlt : k < n
    · obtain ⟨_, hb, hr⟩ := unhide HL
      obtain ⟨b, off, rfl, hbw, hc⟩ := hr.resolve_left (by omega)
      have s0 : wr.cell? ⟨b, off + k * 2, none⟩ = some (.string (Nm k)) := (hbel.cell hbw).trans (hc k hlt).1
      have s1 : wr.cell? ⟨b, off + k * 2 + 1, none⟩ = some (.bool (Nd k)) := (hbel.cell hbw).trans (hc k hlt).2
      obtain ⟨u, hu⟩ := ptr_form G k
      have hgk : wr.heap.size = G k := by rw [unhide HG]; exact unhide HS
      generalize hnm : Nm k = nm at s0
      generalize hnd : Nd k = nd at s1
      have HC2 := hide ((unhide HC).grow hgk hu hnm hnd)
      have HP : Hid (ptrAt G (k + 1) = .pointer (some ⟨wr.heap.size, 0, none⟩)) := by rw [hgk]; rfl
      rw [hu]
      clear hnm hnd hu hgk hc hr hb
      have i1 : (k : Int) < (n : Int) := by omega
      have i2 : (0 : Int) ≤ (k : Int) := by omega
      have HS2 : Hid (∀ X : Obj, (wr.alloc X).drew.heap.size = w.heap.size + (k + 1)) := fun X => by
        have := unhide HS
        show (wr.alloc X).heap.size = _
        simp
        omega
      go_wp2
      go_region
      all_goals go_wp2
      all_goals
        go_roundw
        case rel => exact ⟨k + 1, by omega, (unhide HP).symm, by go_num, unhide HS2 _, unhide HC2, (hbel.alloc hbel.size _).drew⟩
        case measure => simp [intOf]; omega
    · obtain rfl : n = k := by omega
      go_wp2
      go_ret
      exact ⟨rfl, unhide HC, hbel⟩

end Go.Proofs.Qxb6603331a
