/-
  THE PLAIN MATHEMATICS OF plainLine: no Go in sight. A text is a list of bytes, a byte is an Int.
-/
namespace Go.Proofs.Qxb6603404a.Pl

/-- A string's bytes as numbers. -/
def octs (s : ByteArray) : List Int := s.data.toList.map fun c => (c.toNat : Int)

theorem octs_length (s : ByteArray) : (octs s).length = s.size := by
  rw [octs, List.length_map, Array.length_toList]
  rfl

theorem octs_get (s : ByteArray) (k : Nat) (h : k < s.size) : (octs s).getD k 0 = ((s[k].toNat : Nat) : Int) := by
  have hk : k < s.data.toList.length := by rw [Array.length_toList]; exact h
  rw [octs, List.getD, List.getElem?_map, List.getElem?_eq_getElem hk]
  rfl

def blankB (c : Int) : Bool := c == 32 || c == 9
def flowB (c : Int) : Bool := c == 44 || c == 91 || c == 93 || c == 123 || c == 125
def spaceB (c : Int) : Bool := c == 32 || c == 9 || c == 10

/-- A blank, a line break or the end stands at i. -/
def endB (l : List Int) (i : Nat) : Bool := decide (l.length ≤ i) || spaceB (l.getD i 0)
/-- A colon ahead of i parts a key from its value. -/
def indB (l : List Int) (flow : Bool) (i : Nat) : Bool := endB l i || (flow && flowB (l.getD i 0))
/-- A blank ahead of a comment stands at j. -/
def noteB (l : List Int) (j : Nat) : Bool := blankB (l.getD j 0) && (decide (j + 1 < l.length) && l.getD (j + 1) 0 == 35)
def breakB (l : List Int) (j : Nat) : Bool := l.getD j 0 == 10
def colonB (l : List Int) (flow : Bool) (j : Nat) : Bool := l.getD j 0 == 58 && indB l flow (j + 1)
def brackB (l : List Int) (flow : Bool) (j : Nat) : Bool := flow && flowB (l.getD j 0)
/-- The scan stops at j. -/
def stopB (l : List Int) (flow : Bool) (j : Nat) : Bool := breakB l j || noteB l j || colonB l flow j || brackB l flow j

/-- What plainLine answers. -/
structure PL (l : List Int) (flow : Bool) (f E S : Nat) (K : Bool) : Prop where
  fe : f ≤ E
  es : E ≤ S
  top : S ≤ l.length ∨ S = f
  before : ∀ j, f ≤ j → j < S → stopB l flow j = false
  at_ : S < l.length → stopB l flow S = true
  last : E = f ∨ blankB (l.getD (E - 1) 0) = false
  rest : ∀ j, E ≤ j → j < S → blankB (l.getD j 0) = true
  key : K = (decide (S < l.length) && l.getD S 0 == 58)

theorem PL.stop_le {l : List Int} {flow flow' : Bool} {f E S E' S' : Nat} {K K' : Bool} (h : PL l flow f E S K) (h' : PL l flow' f E' S' K') (hm : ∀ j, stopB l flow' j = true → stopB l flow j = true) : S ≤ S' := by
  rcases Nat.lt_or_ge S' S with hlt | hge
  · exfalso
    have h1 : f ≤ S' := Nat.le_trans h'.fe h'.es
    have h2 : S' < l.length := by
      rcases h.top with h3 | h3
      · omega
      · omega
    have h4 := hm S' (h'.at_ h2)
    rw [h.before S' h1 hlt] at h4
    cases h4
  · exact hge

theorem PL.end_le {l : List Int} {flow flow' : Bool} {f E S E' S' : Nat} {K K' : Bool} (h : PL l flow f E S K) (h' : PL l flow' f E' S' K') (hs : S ≤ S') : E ≤ E' := by
  rcases Nat.lt_or_ge E' E with hlt | hge
  · exfalso
    rcases h.last with h1 | h1
    · have := h'.fe
      omega
    · have := h'.rest (E - 1) (by omega) (by have := h.es; omega)
      rw [this] at h1
      cases h1
  · exact hge

theorem PL.same {l : List Int} {flow : Bool} {f E S E' S' : Nat} {K K' : Bool} (h : PL l flow f E S K) (h' : PL l flow f E' S' K') : E = E' ∧ S = S' ∧ K = K' := by
  have s1 := h.stop_le h' (fun _ h => h)
  have s2 := h'.stop_le h (fun _ h => h)
  have e1 := h.end_le h' s1
  have e2 := h'.end_le h s2
  have es : S = S' := Nat.le_antisymm s1 s2
  refine ⟨Nat.le_antisymm e1 e2, es, ?_⟩
  rw [h.key, h'.key, es]

/-! ### brackets stop no later -/
theorem indB_mono {l : List Int} {i : Nat} (h : indB l false i = true) : indB l true i = true := by
  simp only [indB, Bool.false_and, Bool.or_false] at h
  simp [indB, h]

theorem stopB_mono {l : List Int} (j : Nat) (h : stopB l false j = true) : stopB l true j = true := by
  simp only [stopB, brackB, colonB, Bool.false_and, Bool.or_false, Bool.or_eq_true, Bool.and_eq_true] at h
  rcases h with (h | h) | ⟨h1, h2⟩
  · simp [stopB, h]
  · simp [stopB, h]
  · have e : colonB l true j = true := by rw [colonB, h1, indB_mono h2]; rfl
    rw [stopB, e]
    simp

theorem PL.no_break {l : List Int} {flow : Bool} {f E S : Nat} {K : Bool} (h : PL l flow f E S K) (j : Nat) (h1 : f ≤ j) (h2 : j < E) : l.getD j 0 ≠ 10 := by
  have := h.before j h1 (by have := h.es; omega)
  intro hc
  have e : breakB l j = true := by rw [breakB, hc]; rfl
  rw [stopB, e] at this
  simp at this

theorem PL.inside {l : List Int} {flow : Bool} {f E S : Nat} {K : Bool} (h : PL l flow f E S K) (hE : f < E) : E ≤ l.length := by
  have := h.es
  rcases h.top with h1 | h1 <;> omega

/-! ### it looks only ahead -/
theorem getD_drop (l : List Int) (f j : Nat) : (l.drop f).getD j 0 = l.getD (f + j) 0 := by
  simp [List.getD, List.getElem?_drop]

theorem endB_drop (l : List Int) (f i : Nat) (hf : f ≤ l.length) : endB (l.drop f) i = endB l (f + i) := by
  have e : decide ((l.drop f).length ≤ i) = decide (l.length ≤ f + i) := by
    rw [List.length_drop]
    congr 1
    exact propext ⟨fun _ => by omega, fun _ => by omega⟩
  rw [endB, endB, getD_drop, e]

theorem stopB_drop (l : List Int) (flow : Bool) (f j : Nat) (hf : f ≤ l.length) : stopB (l.drop f) flow j = stopB l flow (f + j) := by
  have e : decide (j + 1 < (l.drop f).length) = decide (f + j + 1 < l.length) := by
    rw [List.length_drop]
    congr 1
    exact propext ⟨fun _ => by omega, fun _ => by omega⟩
  simp only [stopB, breakB, noteB, colonB, brackB, indB, getD_drop, endB_drop l f (j + 1) hf, e]
  rfl

theorem PL.ahead {l : List Int} {flow : Bool} {f E S : Nat} {K : Bool} (hf : f ≤ l.length) (h : PL (l.drop f) flow 0 E S K) : PL l flow f (f + E) (f + S) K := by
  have hl : (l.drop f).length = l.length - f := List.length_drop
  refine ⟨by omega, by have := h.es; omega, ?_, ?_, ?_, ?_, ?_, ?_⟩
  · rcases h.top with h1 | h1 <;> omega
  · intro j h1 h2
    obtain ⟨i, rfl⟩ : ∃ i, j = f + i := ⟨j - f, by omega⟩
    rw [← stopB_drop l flow f i hf]
    exact h.before i (Nat.zero_le _) (by omega)
  · intro h1
    rw [← stopB_drop l flow f S hf]
    exact h.at_ (by omega)
  · rcases h.last with h1 | h1
    · exact .inl (by omega)
    · by_cases h0 : E = 0
      · exact .inl (by omega)
      · right
        rw [getD_drop] at h1
        have e : f + E - 1 = f + (E - 1) := by omega
        rw [e]
        exact h1
  · intro j h1 h2
    obtain ⟨i, rfl⟩ : ∃ i, j = f + i := ⟨j - f, by omega⟩
    rw [← getD_drop]
    exact h.rest i (by omega) (by omega)
  · rw [h.key, getD_drop]
    congr 1
    rw [hl]
    congr 1
    exact propext ⟨fun _ => by omega, fun _ => by omega⟩

/-! ### the first place of a kind -/
/-- r is the first place from f on at which P says yes, or n. -/
def First (P : Nat → Bool) (n f r : Nat) : Prop := (∀ j, f ≤ j → j < r → P j = false) ∧ (r = n ∨ (f ≤ r ∧ r < n ∧ P r = true))

theorem First.le {P : Nat → Bool} {n f r : Nat} (h : First P n f r) : r ≤ n := by
  rcases h.2 with h | ⟨_, h, _⟩ <;> omega

theorem First.min {P Q : Nat → Bool} {n f r q : Nat} (h : First P n f r) (g : First Q n f q) : First (fun j => P j || Q j) n f (if q < r then q else r) := by
  have hr := h.le
  have hq := g.le
  by_cases hlt : q < r
  · rw [if_pos hlt]
    refine ⟨fun j h1 h2 => ?_, ?_⟩
    · simp [h.1 j h1 (by omega), g.1 j h1 h2]
    · rcases g.2 with h1 | ⟨h1, h2, h3⟩
      · exact .inl h1
      · exact .inr ⟨h1, h2, by simp [h3]⟩
  · rw [if_neg hlt]
    refine ⟨fun j h1 h2 => ?_, ?_⟩
    · simp [h.1 j h1 h2, g.1 j h1 (by omega)]
    · rcases h.2 with h1 | ⟨h1, h2, h3⟩
      · exact .inl h1
      · exact .inr ⟨h1, h2, by simp [h3]⟩

theorem First.congr {P Q : Nat → Bool} {n f r : Nat} (h : First P n f r) (e : ∀ j, P j = Q j) : First Q n f r := by
  have : P = Q := funext e
  rw [← this]
  exact h

/-- What the model answers is what plainLine answers. -/
theorem model_PL {l : List Int} {flow : Bool} {f E S r : Nat} {K : Bool} (hr : First (stopB l flow) l.length f r) (hS : S = if r < f then f else r) (h1 : f ≤ E) (h2 : E ≤ S) (h3 : E = f ∨ blankB (l.getD (E - 1) 0) = false)
    (h4 : ∀ j, E ≤ j → j < S → blankB (l.getD j 0) = true) (h5 : K = (decide (S < l.length) && l.getD S 0 == 58)) : PL l flow f E S K := by
  have hrn := hr.le
  by_cases hlt : r < f
  · rw [if_pos hlt] at hS
    subst hS
    refine ⟨h1, h2, .inr rfl, fun j a b => by omega, fun h => ?_, h3, h4, h5⟩
    rcases hr.2 with h6 | ⟨h6, _, _⟩ <;> omega
  · rw [if_neg hlt] at hS
    subst hS
    refine ⟨h1, h2, .inl hrn, hr.1, fun h => ?_, h3, h4, h5⟩
    rcases hr.2 with h6 | ⟨_, _, h6⟩
    · omega
    · exact h6

end Go.Proofs.Qxb6603404a.Pl
