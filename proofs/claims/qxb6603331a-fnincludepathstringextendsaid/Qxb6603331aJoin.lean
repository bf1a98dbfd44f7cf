/-
  slices.Reverse AND strings.Join OVER A SLICE OF STRINGS THAT THE CALL OWNS.
-/
import Derived.Test.Qxb6603331aShelf
import Derived.Test.Qxb6603331aPath
import Derived.Test.Qxb6603331aBytes
import Derived.Lib.RowBridge
import Derived.Deep.Upon
namespace Go.Proofs.Qxb6603331a
open Go.RowKit
open Path (sep full item parts glue sizes)
set_option linter.unusedVariables false

theorem bel_cells {B g : Nat} {a : World} (hb : B ≤ g) : ∀ (vs : List Value) (o : Nat) (w : World), Below B a w → Below B a (w.setCells g o vs)
  | [], _, _, h => h
  | v :: vs, o, w, h => bel_cells hb vs (o + 1) (w.setCell ⟨g, o, none⟩ v) (h.setCell (p := ⟨g, o, none⟩) hb v)

/-- A slice of strings that can be read: 'ys'. -/
def RowS (w : World) (v : Value) (ys : List ByteArray) : Prop :=
  (ys = [] ∧ ∃ a c, v = .slice a 0 c) ∨ ∃ g cap, v = .slice (some ⟨g, 0, none⟩) ys.length cap ∧ g < w.heap.size ∧ ys.length ≤ cap ∧ ∀ (j : Nat) x, ys[j]? = some x → w.cell? ⟨g, 0 + j, none⟩ = some (.string x)

theorem enc_back (x : ByteArray) : encStr x.data.toList = .string x := by
  show Value.string ⟨x.data.toList.toArray⟩ = .string x
  simp

theorem strs_back (xs : List ByteArray) : (Lib.strsOf (fun i => xs.getD i ⟨#[]⟩) xs.length).reverse.map encStr = xs.reverse.map Value.string := by
  have e : (Lib.strsOf (fun i => xs.getD i ⟨#[]⟩) xs.length).map encStr = xs.map Value.string := by
    apply List.ext_getElem?
    intro i
    by_cases hi : i < xs.length
    · simp [Lib.strsOf, hi, List.getD]
    · simp [Lib.strsOf, hi]
  rw [List.map_reverse, e, List.map_reverse]

theorem rev_own (B : Nat) (v : Value) (xs : List ByteArray) (w : World) (hown : w.ownsRow B 9 1 v xs.length (xs.map Value.string)) (hn : xs.length ≤ 1073741824) :
    Calls Try.prog 31 #[v] w fun e w' => e = .returned (.tuple #[]) ∧ RowS w' v xs.reverse ∧ Below B w w' := by
  rcases hown.2 with ⟨hv, h0⟩ | ⟨g, cap, cur, hv, hb, hg, hnc, _, _, _⟩
  · have hx : xs = [] := List.eq_nil_of_length_eq_zero h0
    subst hx
    subst hv
    refine (Try.slices_Reverse_string_empty none 0 w).mono ?_
    rintro e w' ⟨rfl, rfl⟩
    exact ⟨rfl, .inl ⟨rfl, none, 0, rfl⟩, Below.refl _ _⟩
  · subst hv
    have hlt : g < w.heap.size := (hown.lt g rfl).2
    have hcell : ∀ i, i < xs.length → w.cell? ⟨g, 0 + i, none⟩ = some (.string (xs.getD i ⟨#[]⟩)) := fun i hi => by
      rw [Nat.zero_add, hown.cellAt i (by omega)]
      simp [hi, List.getD]
    refine (Try.slices_Reverse_string_cells g 0 xs.length cap (fun i => xs.getD i ⟨#[]⟩) w (by omega) hcell (fun j _ => by rw [Nat.zero_add]; exact hown.frozenAt j)).mono ?_
    rintro e w' ⟨rfl, q, rfl⟩
    rw [strs_back]
    refine ⟨rfl, .inr ⟨g, cap, by rw [List.length_reverse], ?_, by rw [List.length_reverse]; exact hnc, ?_⟩, ?_⟩
    · have := (bel_cells hb (xs.reverse.map Value.string) 0 (w.drewN q) ((Below.refl B w).trans ⟨rfl, rfl, rfl, Nat.le_refl _, fun _ _ => rfl⟩)).size
      omega
    · intro j x hx
      have hj : j < xs.reverse.length := (List.getElem?_eq_some_iff.1 hx).1
      have h := World.cell?_setCells_in g (xs.reverse.map Value.string) 0 (w.drewN q) (fun i hi => by
        have hi' : i < xs.length := by simpa using hi
        rw [World.cell?_drewN, hcell i hi']
        rfl) j (by simpa using hj)
      rw [h]
      simp only [List.getElem_map]
      rw [(List.getElem?_eq_some_iff.1 hx).2]
    · exact bel_cells hb _ _ _ ((Below.refl B w).trans ⟨rfl, rfl, rfl, Nat.le_refl _, fun _ _ => rfl⟩)

theorem join_empty (ys : List ByteArray) : Lib.join (ys.map (·.data.toList)) [] = glue ys := by
  induction ys with
  | nil => rfl
  | cons y ys ih =>
    cases ys with
    | nil => simp [Lib.join, glue, List.intercalate]
    | cons z zs =>
      have e : Lib.join ((y :: z :: zs).map (·.data.toList)) [] = y.data.toList ++ Lib.join ((z :: zs).map (·.data.toList)) [] := by
        simp [Lib.join, List.intercalate]
      rw [e, ih]
      simp [glue]

theorem join_own (v : Value) (ys : List ByteArray) (w : World) (h : RowS w v ys) (hn : ys.length ≤ 1073741824) (hl : (glue ys).length ≤ 140737488355328) :
    Calls Try.prog 32 #[v, .string ⟨#[]⟩] w fun e w' => e = .returned (.string ⟨(glue ys).toArray⟩) ∧ Below w.heap.size w w' := by
  rcases h with ⟨rfl, a, c, rfl⟩ | ⟨g, cap, rfl, hg, hc, hcell⟩
  · refine (Try.strings_Join_none a c ⟨#[]⟩ w).mono ?_
    rintro e w' ⟨rfl, rfl⟩
    exact ⟨rfl, Below.refl _ _⟩
  · have e0 : (⟨#[]⟩ : ByteArray).data.toList = [] := rfl
    refine (Try.strings_Join g 0 cap ys ⟨#[]⟩ w hcell hg (by omega) hc (by rw [e0, join_empty]; exact hl)).mono ?_
    rintro e w' ⟨rfl, hb⟩
    refine ⟨?_, hb⟩
    rw [e0, join_empty]

end Go.Proofs.Qxb6603331a
