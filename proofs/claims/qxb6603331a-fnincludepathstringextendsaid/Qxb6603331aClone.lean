/-
  zzCloneLinks.
-/
import Derived.Test.Qxb6603331aLinks
namespace Go.Proofs.Qxb6603331a
open Go.RowKit
open Path (sep full item parts glue sizes)
set_option linter.unusedVariables false

theorem Try.info33 : (Try.prog.info? 33).map (fun i => (i.zero, i.size, i.bytes)) = some (some (.agg #[.string ⟨#[]⟩, .bool false]), 2, 24) := by kernel_rfl

theorem cloneL_nil (w : World) (c : Nat) : Calls Try.prog 18 #[.slice none 0 c] w fun e w' => e = .returned (.slice none 0 0) ∧ w = w' := by
  have hnil := fun (w : World) (a : Option Addr) (n c : Nat) => Lib.run_eql_slice_nil (P := Try.prog) w 30 33 a n c 0 0 Try.underlying30
  go_enter Try.func18, Try.ntmps18
  go_wp2
  go_ret
  exact ⟨rfl, rfl⟩

/-- What the clone's block holds behind k rounds. -/
structure Half (w0 : World) (H n k : Nat) (Nm : Nat → ByteArray) (Nd : Nat → Bool) (wr : World) : Prop where
  done : ∀ i, i < k → wr.cell? ⟨H, i * 2, none⟩ = some (.string (Nm i)) ∧ wr.cell? ⟨H, i * 2 + 1, none⟩ = some (.bool (Nd i))
  there : ∀ j, j < n * 2 → ∃ v, wr.cell? ⟨H, j, none⟩ = some v
  free : ∀ j, wr.frozen? ⟨H, j, none⟩ = false
  lt : H < wr.heap.size
  bel : Below H w0 wr

theorem set_other (w : World) (H a b : Nat) (v : Value) (h : a ≠ b) : (w.setCell ⟨H, a, none⟩ v).cell? ⟨H, b, none⟩ = w.cell? ⟨H, b, none⟩ := by
  apply World.cell?_setCell_other
  intro hh
  apply h
  cases hh
  rfl
theorem set_same (w : World) (H a : Nat) (v : Value) {u : Value} (h : w.cell? ⟨H, a, none⟩ = some u) : (w.setCell ⟨H, a, none⟩ v).cell? ⟨H, a, none⟩ = some v := by
  apply World.cell?_setCell_same
  exact h

theorem Half.step {w0 wr : World} {H n k : Nat} {Nm : Nat → ByteArray} {Nd : Nat → Bool} {nm : ByteArray} {nd : Bool} (h : Half w0 H n k Nm Nd wr) (hk : k < n) (e1 : Nm k = nm) (e2 : Nd k = nd) :
    Half w0 H n (k + 1) Nm Nd ((wr.setCell ⟨H, k * 2, none⟩ (.string nm)).setCell ⟨H, k * 2 + 1, none⟩ (.bool nd)) := by
  obtain ⟨v0, d0⟩ := h.there (k * 2) (by omega)
  obtain ⟨v1, d1⟩ := h.there (k * 2 + 1) (by omega)
  have q0 : ((wr.setCell ⟨H, k * 2, none⟩ (.string nm)).setCell ⟨H, k * 2 + 1, none⟩ (.bool nd)).cell? ⟨H, k * 2, none⟩ = some (.string nm) := by
    rw [set_other _ _ _ _ _ (by omega), set_same _ _ _ _ d0]
  have q1 : ((wr.setCell ⟨H, k * 2, none⟩ (.string nm)).setCell ⟨H, k * 2 + 1, none⟩ (.bool nd)).cell? ⟨H, k * 2 + 1, none⟩ = some (.bool nd) :=
    set_same _ _ _ _ ((set_other _ _ _ _ _ (by omega)).trans d1)
  have qo : ∀ j, j ≠ k * 2 → j ≠ k * 2 + 1 → ((wr.setCell ⟨H, k * 2, none⟩ (.string nm)).setCell ⟨H, k * 2 + 1, none⟩ (.bool nd)).cell? ⟨H, j, none⟩ = wr.cell? ⟨H, j, none⟩ := fun j a b => by
    rw [set_other _ _ _ _ _ (by omega), set_other _ _ _ _ _ (by omega)]
  refine ⟨fun i hi => ?_, fun j hj => ?_, fun j => ?_, ?_, ?_⟩
  · by_cases e : i = k
    · subst e
      rw [q0, q1, e1, e2]
      exact ⟨rfl, rfl⟩
    · rw [qo _ (by omega) (by omega), qo _ (by omega) (by omega)]
      exact h.done i (by omega)
  · by_cases a : j = k * 2
    · subst a
      exact ⟨_, q0⟩
    · by_cases b : j = k * 2 + 1
      · subst b
        exact ⟨_, q1⟩
      · rw [qo j a b]
        exact h.there j hj
  · rw [World.frozen?_setCell, World.frozen?_setCell]
    exact h.free j
  · have := h.lt
    simp
    exact this
  · exact (h.bel.setCell (p := ⟨H, k * 2, none⟩) (Nat.le_refl _) _).setCell (p := ⟨H, k * 2 + 1, none⟩) (Nat.le_refl _) _

set_option maxHeartbeats 400000 in
theorem cloneL_some (x : Addr) (n c : Nat) (Nm : Nat → ByteArray) (Nd : Nat → Bool) (w : World) (hn : n ≤ 1048576)
    (hr : n = 0 ∨ ∃ b off, x = ⟨b, off, none⟩ ∧ b < w.heap.size ∧ ∀ i, i < n → w.cell? ⟨b, off + i * 2, none⟩ = some (.string (Nm i)) ∧ w.cell? ⟨b, off + i * 2 + 1, none⟩ = some (.bool (Nd i))) :
    Calls Try.prog 18 #[.slice (some x) n c] w fun e w' => e = .returned (.slice (some ⟨w.heap.size, 0, none⟩) n n) ∧ Half w w.heap.size n n Nm Nd w' := by
  obtain ⟨i0, hi, hz0, hz1, hz2⟩ := info_parts Try.info33
  have hnil := fun (w : World) (a : Option Addr) (n c : Nat) => Lib.run_eql_slice_nil (P := Try.prog) w 30 33 a n c 0 0 Try.underlying30
  go_enter Try.func18, Try.ntmps18
  go_wp2_with (at_make; refine wpList_make_full _ rfl _ _ 30 rfl w.heap.size 33 i0 (.agg #[.string ⟨#[]⟩, .bool false]) 2 Try.underlying30 hi hz0 hz1 _ _ _ _ n rfl rfl (by omega) (by omega) (by rw [hz2]; omega) (by unfold maxLen; omega) (Nat.le_refl _) ?_)
  intro w1 hown hgrow
  have hH : Half w w.heap.size n 0 Nm Nd w1 := by
    refine ⟨fun i hi => by omega, fun j hj => ?_, fun j => hown.frozenAt j, (hown.lt w.heap.size rfl).2, (Below.refl _ _).grown hgrow (Nat.le_refl _) (by simp)⟩
    have e := hown.cellAt j hj
    have hl := hown.1
    rw [e]
    exact ⟨_, List.getElem?_eq_getElem (by rw [hl]; exact hj)⟩
  have HH := hide hH
  have HR := hide hr
  clear hown hgrow hH hr
  go_wp2
  go_loopw [4] (fun i wr => ∃ k : Nat, k ≤ n ∧ i = .int .i64 k ∧ Hid (Half w w.heap.size n k Nm Nd wr)) (fun i _ => n - (intOf i).toNat)
  case atStart => exact ⟨0, Nat.zero_le _, rfl, HH⟩
  case round =>
    obtain ⟨k, hk, rfl, HK⟩ := hrel
    by_cases hlt : k < n
    · obtain ⟨b, off, rfl, hb, hc⟩ := (unhide HR).resolve_left (by omega)
      have K := unhide HK
      have s0 : wr.cell? ⟨b, off + k * 2, none⟩ = some (.string (Nm k)) := (K.bel.cell hb).trans (hc k hlt).1
      have s1 : wr.cell? ⟨b, off + k * 2 + 1, none⟩ = some (.bool (Nd k)) := (K.bel.cell hb).trans (hc k hlt).2
      obtain ⟨v0, d0⟩ := K.there (k * 2) (by omega)
      obtain ⟨v1, d1⟩ := K.there (k * 2 + 1) (by omega)
      have f0 := K.free (k * 2)
      have f1 := K.free (k * 2 + 1)
      clear hc K HH
      generalize hnm : Nm k = nm at s0
      generalize hnd : Nd k = nd at s1
      have Hnm := hide hnm
      have Hnd := hide hnd
      clear hnm hnd
      have HS := hide ((unhide HK).step hlt (unhide Hnm) (unhide Hnd))
      go_wp2
      go_roundw
      case rel => exact ⟨k + 1, by omega, by go_num, HS⟩
      case measure => simp [intOf]; omega
    · obtain rfl : n = k := by omega
      go_wp2
      go_ret
      exact ⟨rfl, unhide HK⟩

/-- zzCloneLinks at whatever slice. -/
theorem cloneLinks (a : Option Addr) (n c : Nat) (Nm : Nat → ByteArray) (Nd : Nat → Bool) (w : World) (hn : n ≤ 1048576) (hL : Links w a n Nm Nd) :
    Calls Try.prog 18 #[.slice a n c] w fun e w' => ∃ ao, e = .returned (.slice ao n n) ∧ Links w' ao n Nm Nd ∧ Below w.heap.size w w' := by
  obtain ⟨h0, hb, hr⟩ := hL
  cases a with
  | none =>
    obtain rfl := h0 rfl
    refine (cloneL_nil w c).mono ?_
    rintro e w' ⟨rfl, rfl⟩
    exact ⟨none, rfl, ⟨fun _ => rfl, hb, .inl rfl⟩, Below.refl _ _⟩
  | some x =>
    refine (cloneL_some x n c Nm Nd w hn ?_).mono ?_
    · rcases hr with h | ⟨b, off, hx, r⟩
      · exact .inl h
      · exact .inr ⟨b, off, Option.some.inj hx, r⟩
    · rintro e w' ⟨rfl, hH⟩
      exact ⟨_, rfl, ⟨(fun h => by cases h), hb, .inr ⟨w.heap.size, 0, rfl, hH.lt, fun i hi => by rw [Nat.zero_add]; exact hH.done i hi⟩⟩, hH.bel⟩

end Go.Proofs.Qxb6603331a
