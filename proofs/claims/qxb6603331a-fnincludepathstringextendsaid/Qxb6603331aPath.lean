/-
  THE PLAIN MATHEMATICS OF IncludePath.String: no Go in sight. A path is a name and a flag an index.
-/
namespace Go.Proofs.Qxb6603331a.Path

/-- The separator ahead of a link. -/
def sep (needed : Bool) : ByteArray := if needed then ⟨#[32, 60, 32]⟩ else ⟨#[32, 62, 32]⟩

theorem sep_size (b : Bool) : (sep b).size = 3 := by cases b <;> rfl

/-- What String writes of the first k links. -/
def full (Nm : Nat → ByteArray) (Nd : Nat → Bool) : Nat → List UInt8
  | 0 => []
  | k + 1 => full Nm Nd k ++ ((if k = 0 then [] else (sep (Nd k)).data.toList) ++ (Nm k).data.toList)

/-- What the loop of String appends for link i. -/
def item (Nm : Nat → ByteArray) (Nd : Nat → Bool) (i : Nat) : List ByteArray := Nm i :: (if i = 0 then [] else [sep (Nd i)])

/-- What it has gathered behind d rounds, from the last of k links back. -/
def parts (Nm : Nat → ByteArray) (Nd : Nat → Bool) (k : Nat) : Nat → List ByteArray
  | 0 => []
  | d + 1 => parts Nm Nd k d ++ item Nm Nd (k - 1 - d)

/-- The bytes of a list of strings, one behind the other. -/
def glue (xs : List ByteArray) : List UInt8 := xs.flatMap fun x => x.data.toList

theorem glue_nil : glue [] = [] := rfl
theorem glue_append (a b : List ByteArray) : glue (a ++ b) = glue a ++ glue b := by simp [glue]

theorem glue_item (Nm : Nat → ByteArray) (Nd : Nat → Bool) (i : Nat) : glue (item Nm Nd i).reverse = (if i = 0 then [] else (sep (Nd i)).data.toList) ++ (Nm i).data.toList := by
  unfold item
  by_cases h : i = 0
  · simp [h, glue]
  · simp [h, glue]

theorem full_parts (Nm : Nat → ByteArray) (Nd : Nat → Bool) (k d : Nat) (h : d ≤ k) : full Nm Nd k = full Nm Nd (k - d) ++ glue (parts Nm Nd k d).reverse := by
  induction d with
  | zero => simp [parts, glue]
  | succ d ih =>
    rw [ih (by omega), parts, List.reverse_append, glue_append, glue_item]
    have e : k - d = (k - (d + 1)) + 1 := by omega
    have e2 : k - 1 - d = k - (d + 1) := by omega
    rw [e, full, e2, List.append_assoc]

theorem glue_parts (Nm : Nat → ByteArray) (Nd : Nat → Bool) (k : Nat) : glue (parts Nm Nd k k).reverse = full Nm Nd k := by
  have := full_parts Nm Nd k k (Nat.le_refl _)
  rw [Nat.sub_self] at this
  rw [this]
  rfl

theorem item_length (Nm : Nat → ByteArray) (Nd : Nat → Bool) (i : Nat) : (item Nm Nd i).length ≤ 2 ∧ 1 ≤ (item Nm Nd i).length := by
  unfold item
  by_cases h : i = 0 <;> simp [h]

theorem parts_length (Nm : Nat → ByteArray) (Nd : Nat → Bool) (k d : Nat) : (parts Nm Nd k d).length ≤ 2 * d := by
  induction d with
  | zero => simp [parts]
  | succ d ih =>
    rw [parts, List.length_append]
    have := item_length Nm Nd (k - 1 - d)
    omega

theorem parts_pos (Nm : Nat → ByteArray) (Nd : Nat → Bool) (k d : Nat) (h : 0 < d) : 0 < (parts Nm Nd k d).length := by
  cases d with
  | zero => omega
  | succ d =>
    rw [parts, List.length_append]
    have := item_length Nm Nd (k - 1 - d)
    omega

/-- The lengths of the first k names together. -/
def sizes (Nm : Nat → ByteArray) : Nat → Nat
  | 0 => 0
  | k + 1 => sizes Nm k + (Nm k).size

theorem sizes_mono (Nm : Nat → ByteArray) (i k : Nat) (h : i ≤ k) : sizes Nm i ≤ sizes Nm k := by
  induction k with
  | zero =>
    obtain rfl : i = 0 := by omega
    exact Nat.le_refl _
  | succ k ih =>
    by_cases e : i = k + 1
    · subst e
      exact Nat.le_refl _
    · have := ih (by omega)
      rw [sizes]
      omega

theorem len_data (s : ByteArray) : s.data.toList.length = s.size := by rw [Array.length_toList]; rfl

theorem full_length (Nm : Nat → ByteArray) (Nd : Nat → Bool) (k : Nat) : (full Nm Nd k).length ≤ sizes Nm k + 3 * k := by
  induction k with
  | zero => simp [full, sizes]
  | succ k ih =>
    rw [full, List.length_append, List.length_append, sizes, len_data]
    by_cases h : k = 0
    · simp [h] at ih ⊢
      omega
    · rw [if_neg h, len_data, sep_size]
      omega

/-- The joint of what is the same up to k. -/
theorem full_congr {Nm Nm' : Nat → ByteArray} {Nd Nd' : Nat → Bool} (k : Nat) (h1 : ∀ i, i < k → Nm i = Nm' i) (h2 : ∀ i, i < k → Nd i = Nd' i) : full Nm Nd k = full Nm' Nd' k := by
  induction k with
  | zero => rfl
  | succ k ih =>
    rw [full, full, ih (fun i hi => h1 i (by omega)) (fun i hi => h2 i (by omega)), h1 k (by omega), h2 k (by omega)]

end Go.Proofs.Qxb6603331a.Path
