/-
  THE PLAIN MATHEMATICS OF compose.appendString: no Go in sight. A byte is an Int.
-/
namespace Go.Proofs.Qxb6603331a.Esc

/-- The lower-case hexadecimal digit of n (0 to 15), as a byte. -/
def hexd (n : Int) : Int := if n < 10 then 48 + n else 87 + n

/-- What appendString writes for one byte. -/
def esc (c : Int) : List Int :=
  if c = 34 ∨ c = 92 then [92, c]
  else if c = 8 then [92, 98]
  else if c = 12 then [92, 102]
  else if c = 10 then [92, 110]
  else if c = 13 then [92, 114]
  else if c = 9 then [92, 116]
  else if c < 32 then [92, 117, 48, 48, hexd (c / 16), hexd (c % 16)]
  else [c]

/-- What it writes for a list of octs, without the two quotation marks. -/
def escAll (l : List Int) : List Int := l.flatMap esc

/-- What it writes. -/
def enc (l : List Int) : List Int := 34 :: (escAll l ++ [34])

/-- A string's bytes as numbers. -/
def octs (s : ByteArray) : List Int := s.data.toList.map fun c => (c.toNat : Int)

theorem octs_length (s : ByteArray) : (octs s).length = s.size := by
  rw [octs, List.length_map, Array.length_toList]
  rfl

theorem octs_get (s : ByteArray) (k : Nat) (h : k < s.size) : (octs s)[k]? = some ((s[k].toNat : Nat) : Int) := by
  have hk : k < s.data.toList.length := by rw [Array.length_toList]; exact h
  rw [octs, List.getElem?_map, List.getElem?_eq_getElem hk]
  rfl

theorem octs_take_succ (s : ByteArray) (k : Nat) (h : k < s.size) : (octs s).take (k + 1) = (octs s).take k ++ [((s[k].toNat : Nat) : Int)] := by
  rw [List.take_add_one, octs_get s k h]
  rfl

theorem octs_bound (s : ByteArray) : ∀ c ∈ octs s, 0 ≤ c ∧ c ≤ 255 := by
  intro c hc
  obtain ⟨b, _, rfl⟩ := List.mem_map.1 hc
  have := b.toNat_lt
  omega

theorem escAll_nil : escAll [] = [] := rfl
theorem escAll_append (a b : List Int) : escAll (a ++ b) = escAll a ++ escAll b := by simp [escAll]
theorem escAll_cons (c : Int) (l : List Int) : escAll (c :: l) = esc c ++ escAll l := by simp [escAll]
theorem escAll_snoc (l : List Int) (c : Int) : escAll (l ++ [c]) = escAll l ++ esc c := by simp [escAll]

theorem esc_len (c : Int) : 1 ≤ (esc c).length ∧ (esc c).length ≤ 6 := by
  unfold esc
  repeat' split
  all_goals simp

theorem escAll_len (l : List Int) : l.length ≤ (escAll l).length ∧ (escAll l).length ≤ 6 * l.length := by
  induction l with
  | nil => simp [escAll]
  | cons c l ih =>
    have := esc_len c
    rw [escAll_cons, List.length_append, List.length_cons]
    omega

theorem enc_len (l : List Int) : (enc l).length = (escAll l).length + 2 := by simp [enc]

/-! ### the arms, as the walk meets them -/
theorem esc_quote {c : Int} (h : c = 34) : esc c = [92, c] := by simp [esc, h]
theorem esc_back {c : Int} (h : c = 92) : esc c = [92, c] := by simp [esc, h]
theorem esc_ctl {c : Int} (h0 : 0 ≤ c) (h : c < 32) (a : c ≠ 8) (b : c ≠ 12) (d : c ≠ 10) (e : c ≠ 13) (f : c ≠ 9) : esc c = [92, 117, 48, 48, hexd (c / 16), hexd (c % 16)] := by
  unfold esc
  rw [if_neg (by omega), if_neg a, if_neg b, if_neg d, if_neg e, if_neg f, if_pos h]
theorem esc_plain {c : Int} (h : 32 ≤ c) (a : c ≠ 34) (b : c ≠ 92) : esc c = [c] := by
  unfold esc
  rw [if_neg (by omega), if_neg (by omega), if_neg (by omega), if_neg (by omega), if_neg (by omega), if_neg (by omega), if_neg (by omega)]

/-! ### the law of lengths -/
/-- A byte that stands for itself. -/
def plainB (c : Int) : Bool := !(decide (c < 32) || c == 34 || c == 92)

theorem plainB_true {c : Int} (h : plainB c = true) : 32 ≤ c ∧ c ≠ 34 ∧ c ≠ 92 := by
  simp [plainB] at h
  omega
theorem plainB_false {c : Int} (h : plainB c = false) : c < 32 ∨ c = 34 ∨ c = 92 := by
  simp only [plainB, Bool.not_eq_false', Bool.or_eq_true, decide_eq_true_eq, beq_iff_eq] at h
  omega

theorem esc_two {c : Int} (h : plainB c = false) : 2 ≤ (esc c).length := by
  have := plainB_false h
  unfold esc
  repeat' split
  all_goals first | (simp; done) | omega

theorem escAll_all {l : List Int} (h : l.all plainB = true) : escAll l = l := by
  induction l with
  | nil => rfl
  | cons c l ih =>
    simp only [List.all_cons, Bool.and_eq_true] at h
    obtain ⟨a, b, d⟩ := plainB_true h.1
    rw [escAll_cons, ih h.2, esc_plain a b d]
    rfl

theorem escAll_some {l : List Int} (h : l.all plainB = false) : l.length < (escAll l).length := by
  induction l with
  | nil => simp at h
  | cons c l ih =>
    rw [escAll_cons, List.length_append, List.length_cons]
    have h1 := esc_len c
    have h2 := (escAll_len l).1
    rw [List.all_cons, Bool.and_eq_false_iff] at h
    rcases h with h | h
    · have := esc_two h
      omega
    · have := ih h
      omega

theorem hexd_ge {n : Int} (h : 0 ≤ n) : 32 ≤ hexd n := by
  unfold hexd
  split <;> omega

theorem esc_ge (c : Int) (h : 0 ≤ c) : ∀ x ∈ esc c, 32 ≤ x := by
  intro x hx
  unfold esc at hx
  have h1 := hexd_ge (n := c / 16) (by omega)
  have h2 := hexd_ge (n := c % 16) (by omega)
  repeat' split at hx
  all_goals
    simp only [List.mem_cons, List.not_mem_nil, or_false] at hx
    omega

theorem enc_ge (l : List Int) (h : ∀ c ∈ l, 0 ≤ c) : ∀ x ∈ enc l, 32 ≤ x := by
  intro x hx
  simp only [enc, List.mem_cons, List.mem_append, List.not_mem_nil, or_false, escAll, List.mem_flatMap] at hx
  rcases hx with rfl | ⟨c, hc, hx⟩ | rfl
  · omega
  · exact esc_ge c (h c hc) x hx
  · omega

theorem getD_behind (zs l : List Int) (k : Nat) : (zs ++ l).getD (zs.length + k) 0 = l.getD k 0 := by
  simp [List.getD, List.getElem?_append_right]

theorem tail_ge (zs : List Int) (s : ByteArray) (n k : Nat) (hz : zs.length = n) (h1 : n ≤ k) (h2 : k < n + (escAll (octs s)).length + 2) : 32 ≤ (zs ++ enc (octs s)).getD k 0 := by
  obtain ⟨j, rfl⟩ : ∃ j, k = n + j := ⟨k - n, by omega⟩
  subst hz
  rw [getD_behind]
  have hj : j < (enc (octs s)).length := by rw [enc_len]; omega
  rw [List.getD, List.getElem?_eq_getElem hj]
  exact enc_ge _ (fun c hc => (octs_bound s c hc).1) _ (List.getElem_mem hj)

theorem tail_first (zs : List Int) (l : List Int) (n : Nat) (hz : zs.length = n) : (zs ++ enc l).getD n 0 = 34 := by
  subst hz
  have := getD_behind zs (enc l) 0
  rw [Nat.add_zero] at this
  rw [this]
  rfl

theorem tail_last (zs : List Int) (l : List Int) (n k : Nat) (hz : zs.length = n) (hk : k = n + (escAll l).length + 1) : (zs ++ enc l).getD k 0 = 34 := by
  subst hz
  subst hk
  rw [Nat.add_assoc, getD_behind, enc]
  simp [List.getD]

theorem tail_mid (zs : List Int) (s : ByteArray) (n k : Nat) (hz : zs.length = n) (hp : (octs s).all plainB = true) (hk : k < s.size) : (zs ++ enc (octs s)).getD (n + 1 + k) 0 = ((s[k].toNat : Nat) : Int) := by
  subst hz
  rw [Nat.add_assoc, getD_behind, enc, escAll_all hp, Nat.add_comm 1 k]
  have h := octs_get s k hk
  have hl : k < (octs s).length := by rw [octs_length]; exact hk
  simp only [List.getD, List.getElem?_cons_succ, List.getElem?_append_left hl, h]
  rfl

theorem all_succ (s : ByteArray) (k : Nat) (h : k < s.size) : ((octs s).take (k + 1)).all plainB = (((octs s).take k).all plainB && plainB ((s[k].toNat : Nat) : Int)) := by
  rw [octs_take_succ s k h, List.all_append]
  simp

theorem all_end (s : ByteArray) : ((octs s).take s.size).all plainB = (octs s).all plainB := by
  rw [List.take_of_length_le (by rw [octs_length]; omega)]

/-! ### the law of cuts -/
theorem enc_append (a b : List Int) : enc (a ++ b) = (enc a).take ((enc a).length - 1) ++ (enc b).drop 1 := by
  have e : enc a = (34 :: escAll a) ++ [34] := by simp [enc]
  have e1 : (enc a).take ((enc a).length - 1) = 34 :: escAll a := by
    rw [e, List.length_append]
    simp
  have e2 : (enc b).drop 1 = escAll b ++ [34] := by simp [enc]
  rw [e1, e2, enc, escAll_append]
  simp

end Go.Proofs.Qxb6603331a.Esc
