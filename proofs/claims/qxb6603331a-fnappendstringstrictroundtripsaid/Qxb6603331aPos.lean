/-
  THE PLAIN MATHEMATICS OF THE STRICT READER: where the encoding of the j-th byte stands. No Go in sight.
-/
import Derived.Test.Qxb6603331aEsc
namespace Go.Proofs.Qxb6603331a.Esc

/-- Where the encoding of the j-th byte begins in 'enc l'. -/
def pos (l : List Int) (j : Nat) : Nat := 1 + (escAll (l.take j)).length

theorem pos_zero (l : List Int) : pos l 0 = 1 := by simp [pos, escAll]
theorem pos_pos (l : List Int) (j : Nat) : 1 ≤ pos l j := by unfold pos; omega

theorem take_next (l : List Int) (j : Nat) (h : j < l.length) : l.take (j + 1) = l.take j ++ [l.getD j 0] := by
  rw [List.take_add_one]
  simp [List.getD, h]

theorem pos_succ (l : List Int) (j : Nat) (h : j < l.length) : pos l (j + 1) = pos l j + (esc (l.getD j 0)).length := by
  rw [pos, pos, take_next l j h, escAll_snoc, List.length_append]
  omega

theorem pos_end (l : List Int) : pos l l.length + 1 = (enc l).length := by
  rw [pos, List.take_length, enc_len]
  omega

theorem split_at (l : List Int) (j : Nat) (h : j < l.length) : l = l.take j ++ l.getD j 0 :: l.drop (j + 1) := by
  have e : l.getD j 0 = l[j] := by simp [List.getD, h]
  rw [e, List.getElem_cons_drop, List.take_append_drop]

theorem enc_split (l : List Int) (j : Nat) (h : j < l.length) : enc l = (34 :: escAll (l.take j)) ++ (esc (l.getD j 0) ++ (escAll (l.drop (j + 1)) ++ [34])) := by
  have e : escAll l = escAll (l.take j) ++ (esc (l.getD j 0) ++ escAll (l.drop (j + 1))) := by
    rw [← escAll_cons, ← escAll_append, ← split_at l j h]
  rw [enc, e]
  simp

theorem enc_at (l : List Int) (j t : Nat) (h : j < l.length) (ht : t < (esc (l.getD j 0)).length) : (enc l).getD (pos l j + t) 0 = (esc (l.getD j 0)).getD t 0 := by
  have e : pos l j = (34 :: escAll (l.take j)).length := by rw [pos, List.length_cons]; omega
  rw [enc_split l j h, e, getD_behind]
  clear e
  generalize l.getD j 0 = c at *
  rw [List.getD, List.getD, List.getElem?_append_left ht]

theorem pos_room (l : List Int) (j : Nat) (h : j < l.length) : pos l j + (esc (l.getD j 0)).length + 1 ≤ (enc l).length := by
  have e : pos l j = (34 :: escAll (l.take j)).length := by rw [pos, List.length_cons]; omega
  rw [enc_split l j h, e]
  simp only [List.length_append, List.length_cons, List.length_nil]
  omega

theorem enc_first (l : List Int) : (enc l).getD 0 0 = 34 := rfl
theorem enc_last (l : List Int) (k : Nat) (hk : k + 1 = (enc l).length) : (enc l).getD k 0 = 34 := by
  have := tail_last [] l 0 k rfl (by rw [enc_len] at hk; omega)
  simpa using this

theorem len_enc (l : List Int) : l.length + 2 ≤ (enc l).length := by
  have := (escAll_len l).1
  rw [enc_len]
  omega

theorem getD_bound (l : List Int) (h : ∀ c ∈ l, 0 ≤ c ∧ c ≤ 255) (j : Nat) : 0 ≤ l.getD j 0 ∧ l.getD j 0 ≤ 255 := by
  by_cases hj : j < l.length
  · have e : l.getD j 0 = l[j] := by simp [List.getD, hj]
    rw [e]
    exact h _ (List.getElem_mem hj)
  · have e : l.getD j 0 = 0 := by simp [List.getD, hj]
    rw [e]
    omega

theorem hexd_lo {x : Int} (h : x < 10) : hexd x = 48 + x := by simp [hexd, h]
theorem hexd_hi {x : Int} (h : 10 ≤ x) : hexd x = 87 + x := by
  unfold hexd
  rw [if_neg (by omega)]

end Go.Proofs.Qxb6603331a.Esc
