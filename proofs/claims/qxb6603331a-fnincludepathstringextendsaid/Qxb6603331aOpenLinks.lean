/-
  A SLICE OF LINKS THAT CAME IN, OPENED.
-/
import Derived.Test.Qxb6603331aBuild
import Derived.Deep.SlicePairs
namespace Go.Proofs.Qxb6603331a
open Go.RowKit
set_option linter.unusedVariables false

theorem Try.cells33 : Try.prog.cellsOf 33 = 2 := by kernel_rfl
theorem Try.cells9 : Try.prog.cellsOf 9 = 1 := by kernel_rfl
theorem Try.cells4 : Try.prog.cellsOf 4 = 1 := by kernel_rfl

theorem open_links {H : Type} {enc : TypeId × Value → H} {W : World} {base : Nat} {held : Bool} {fuel : Nat} {a0 : Option Addr} {len0 cap0 : Nat} {x : DataW H × List MemPlace}
    (h : DataW.trod enc Try.prog W base (fun _ => true) held fuel 30 (Value.slice a0 len0 cap0).cells.toList = some x) : ∃ Nm Nd, len0 ≤ maxLen ∧ Links W a0 len0 Nm Nd := by
  rcases Deep.open_slice_pairs Try.underlying30 Try.underlying33 Try.cells33 rfl rfl Try.cells9 Try.cells4 h with ⟨hcs, _⟩ | ⟨a, len, cap, m, n, V0, V1, D0, D1, P0, P1, hcs, hb, hl, hm, hmm, hx, hc⟩
  · simp [Value.cells] at hcs
    obtain ⟨rfl, rfl, rfl⟩ := hcs
    exact ⟨fun _ => ⟨#[]⟩, fun _ => false, Nat.zero_le _, fun _ => rfl, fun i hi => by omega, .inl rfl⟩
  · simp [Value.cells] at hcs
    obtain ⟨rfl, rfl, rfl⟩ := hcs
    simp only [if_true] at hmm
    subst hmm
    have each : ∀ i, i < len0 → ∃ q : ByteArray × Bool, V0 i = .string q.1 ∧ V1 i = .bool q.2 ∧ q.1.size ≤ maxLen := fun i hi => by
      obtain ⟨_, _, t0, t1⟩ := hc i (by omega)
      obtain ⟨s, e0, _, hs⟩ := DataW.trod_string Try.underlying9 t0
      obtain ⟨b, e1, _⟩ := DataW.trod_bool Try.underlying4 t1
      simp at e0 e1
      exact ⟨(s, b), e0, e1, hs⟩
    obtain ⟨q, hq⟩ := Deep.choose_lt each
    refine ⟨fun i => (q i).1, fun i => (q i).2, Nat.le_trans hl hm, (fun h => by cases h), fun i hi => by have := (hq i hi).2.2; unfold maxLen at this; exact this, ?_⟩
    by_cases h0 : len0 = 0
    · exact .inl h0
    · right
      obtain ⟨b, off, spot⟩ := a
      have c0 := (hc 0 (by omega)).1
      have hspot : spot = none := by simpa [Addr.add] using World.cell?_spot c0
      subst hspot
      have eadd : ∀ i, (⟨b, off, none⟩ : Addr).add i = ⟨b, off + i, none⟩ := fun i => by unfold Addr.add; split <;> simp_all
      refine ⟨b, off, rfl, ?_, fun i hi => ?_⟩
      · have := World.block_lt_of_cell? W _ c0
        rw [eadd] at this
        exact this
      · obtain ⟨t0, t1, _, _⟩ := hc i (by omega)
        rw [eadd, (hq i hi).1] at t0
        rw [eadd, (hq i hi).2.1] at t1
        exact ⟨t0, t1⟩

end Go.Proofs.Qxb6603331a
