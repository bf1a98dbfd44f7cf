/-
  THE CALLEES AS THE LAWS MEET THEM.
-/
import Derived.Test.Qxb6603331aApp
namespace Go.Proofs.Qxb6603331a
open Go.RowKit
open Esc (esc escAll enc octs hexd)
set_option linter.unusedVariables false

/-- A slice that the law owns, full: its elements are 'zs'; it lies at a block's head, from block B on. -/
def Full (w : World) (B : Nat) (ao : Option Addr) (n : Nat) (zs : List Int) : Prop :=
  zs.length = n ∧ (ao = none → n = 0) ∧ ∀ x, ao = some x → ∃ g, x = ⟨g, 0, none⟩ ∧ B ≤ g ∧ g < w.heap.size ∧ ∀ j, j < n → w.cell? ⟨g, j, none⟩ = some (.int .u8 (zs.getD j 0))

theorem add_head (g j : Nat) : (⟨g, 0, none⟩ : Addr).add j = ⟨g, j, none⟩ := by unfold Addr.add; split <;> simp_all

theorem Full.holds {w : World} {B n : Nat} {ao : Option Addr} {zs : List Int} (h : Full w B ao n zs) : ∀ b, ao = some b → ∀ j u, (cellsOf zs)[j]? = some u → w.cell? (b.add j) = some u := by
  intro b hb j u hu
  obtain ⟨g, rfl, _, _, hc⟩ := h.2.2 b hb
  have hj : j < zs.length := by
    have := (List.getElem?_eq_some_iff.1 hu).1
    simpa [cellsOf] using this
  rw [cellsOf_get zs j hj] at hu
  rw [add_head, hc j (by rw [← h.1]; exact hj)]
  exact hu

theorem Full.reads {w : World} {B n : Nat} {ao : Option Addr} {zs : List Int} (h : Full w B ao n zs) : Reads w ao n zs := by
  refine ⟨h.1, h.2.1, ?_⟩
  cases ao with
  | none => exact .inl (h.2.1 rfl)
  | some x =>
    obtain ⟨g, rfl, _, hlt, hc⟩ := h.2.2 x rfl
    exact .inr ⟨g, 0, rfl, hlt, fun i hi => by rw [Nat.zero_add]; exact hc i hi⟩

theorem Full.later {w w' : World} {B B' n : Nat} {ao : Option Addr} {zs : List Int} (h : Full w B ao n zs) (hb : Below w.heap.size w w') (hB : B' ≤ B) : Full w' B' ao n zs := by
  refine ⟨h.1, h.2.1, fun x hx => ?_⟩
  obtain ⟨g, rfl, hg, hlt, hc⟩ := h.2.2 x hx
  exact ⟨g, rfl, Nat.le_trans hB hg, Nat.lt_of_lt_of_le hlt hb.size, fun j hj => (hb.cell (p := ⟨g, j, none⟩) hlt).trans (hc j hj)⟩

/-- What the shell of a law's proof tells of a slice of bytes that came in, as 'Reads' says it. -/
theorem reads_of_row {w : World} {a : Option Addr} {len cap : Nat} {zs : List Int}
    (h : (a = none ∧ len = 0 ∧ cap = 0 ∧ zs = []) ∨ ∃ x, a = some x ∧ len ≤ cap ∧ cap ≤ maxLen ∧ zs.length = cap ∧ (∀ i, i < zs.length → w.cell? (x.add i) = some (.int .u8 (zs.getD i 0))) ∧ ∀ n ∈ zs, (Lit.int .u8 n).wf = true) :
    len ≤ maxLen ∧ Reads w a len (zs.take len) := by
  rcases h with ⟨rfl, rfl, rfl, rfl⟩ | ⟨x, rfl, hl, hm, hz, hc, _⟩
  · exact ⟨Nat.zero_le _, rfl, fun _ => rfl, .inl rfl⟩
  · refine ⟨Nat.le_trans hl hm, by rw [List.length_take]; omega, (fun h => by cases h), ?_⟩
    by_cases h0 : len = 0
    · exact .inl h0
    · right
      obtain ⟨b, off, spot⟩ := x
      have hspot : spot = none := by simpa [Addr.add] using World.cell?_spot (hc 0 (by omega))
      subst hspot
      refine ⟨b, off, rfl, ?_, fun i hi => ?_⟩
      · have := World.block_lt_of_cell? w _ (hc 0 (by omega))
        simpa [Addr.add] using this
      · have := hc i (by omega)
        have e : (⟨b, off, none⟩ : Addr).add i = ⟨b, off + i, none⟩ := by unfold Addr.add; split <;> simp_all
        rw [e] at this
        rw [this, List.getD, List.getD, List.getElem?_take, if_pos hi]

/-- zzCloneBytes at whatever slice. -/
theorem clone_any (a : Option Addr) (n c : Nat) (zs : List Int) (w : World) (hn : n ≤ 1048576) (hR : Reads w a n zs) :
    Calls Try.prog 11 #[.slice a n c] w fun e w' => ∃ ao, e = .returned (.slice ao n n) ∧ Full w' w.heap.size ao n zs ∧ Below w.heap.size w w' := by
  obtain ⟨hz, h0, hr⟩ := hR
  cases a with
  | none =>
    obtain rfl := h0 rfl
    refine (clone_nil w c).mono ?_
    rintro e w' ⟨rfl, rfl⟩
    exact ⟨none, rfl, ⟨hz, fun _ => rfl, fun x hx => by cases hx⟩, Below.refl _ _⟩
  | some x =>
    refine (clone_some x n c zs w hz hn ?_).mono ?_
    · rcases hr with h | ⟨b, off, hx, r⟩
      · exact .inl h
      · exact .inr ⟨b, off, Option.some.inj hx, r⟩
    · rintro e w' ⟨rfl, hown, hgrow⟩
      refine ⟨_, rfl, ⟨hz, (fun h => by cases h), fun y hy => ?_⟩, (Below.refl _ _).grown hgrow (Nat.le_refl _) (by simp)⟩
      obtain rfl := Option.some.inj hy
      have hlt := (hown.lt w.heap.size rfl).2
      refine ⟨w.heap.size, rfl, Nat.le_refl _, hlt, fun j hj => ?_⟩
      rw [hown.cellAt j (by omega), cellsOf_get zs j (by omega)]

/-- ZZappendString on a full slice. -/
theorem zz_law (B : Nat) (ao : Option Addr) (n : Nat) (zs : List Int) (s : ByteArray) (w : World) (hF : Full w B ao n zs) (hn : n ≤ 1048576) (hs : s.size ≤ 1048576) :
    Calls Try.prog 12 #[.slice ao n n, .string s] w fun e w' => ∃ g cap L, e = .returned (.slice (some ⟨g, 0, none⟩) L cap) ∧ Hid (L = n + (escAll (octs s)).length + 2) ∧ n + s.size + 2 ≤ L ∧ L ≤ n + 6 * s.size + 2 ∧
      L ≤ cap ∧ w.heap.size ≤ g ∧ g < w'.heap.size ∧ (∀ j, j < L → w'.cell? ⟨g, j, none⟩ = some (.int .u8 ((zs ++ enc (octs s)).getD j 0))) ∧ Below w.heap.size w w' := by
  refine (zz_full ao n zs s w hF.1 hn hs hF.2.1 hF.holds).mono ?_
  rintro e w' ⟨g, cap, rfl, hg, hown, hbel⟩
  have hl := Esc.escAll_len (octs s)
  have hle : (zs ++ enc (octs s)).length = n + (escAll (octs s)).length + 2 := by rw [List.length_append, Esc.enc_len, hF.1]; omega
  rw [Esc.octs_length] at hl
  refine ⟨g, cap, _, rfl, hle, by omega, by omega, ?_, hg, (hown.lt g rfl).2, fun j hj => ?_, hbel⟩
  · rcases hown.2 with ⟨h, _⟩ | ⟨g', cap', cur, hv, _, _, hc, _⟩
    · cases h
    · cases hv
      exact hc
  · rw [hown.cellAt j (by omega), cellsOf_get _ j hj]

end Go.Proofs.Qxb6603331a
