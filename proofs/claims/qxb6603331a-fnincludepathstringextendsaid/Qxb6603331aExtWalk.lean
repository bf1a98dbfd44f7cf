/-
  THE WALK OF FnIncludePathStringExtend.
-/
import Derived.Test.Qxb6603331aSpecWalk
namespace Go.Proofs.Qxb6603331a
open Go.RowKit
open Path (sep full item parts glue sizes)
set_option linter.unusedVariables false

/-- A function turned at one place. -/
def turn {α : Type} (f : Nat → α) (n : Nat) (x : α) : Nat → α := fun i => if i = n then x else f i

theorem turn_at {α : Type} (f : Nat → α) (n : Nat) (x : α) : turn f n x n = x := by simp [turn]
theorem turn_off {α : Type} (f : Nat → α) (n : Nat) (x : α) (i : Nat) (h : i ≠ n) : turn f n x i = f i := by simp [turn, h]

theorem ptr_congr {G G' : Nat → Nat} (n : Nat) (h : ∀ i, i < n → G i = G' i) : ptrAt G n = ptrAt G' n := by
  cases n with
  | zero => rfl
  | succ n => rw [ptrAt, ptrAt, h n (by omega)]

/-- What String writes of a path with one link more. -/
def childStr (Nm : Nat → ByteArray) (Nd : Nat → Bool) (n : Nat) (nd : Bool) (name : ByteArray) : ByteArray := ⟨(full Nm Nd n ++ ((if n = 0 then [] else (sep nd).data.toList) ++ name.data.toList)).toArray⟩

theorem full_turn (Nm : Nat → ByteArray) (Nd : Nat → Bool) (n : Nat) (nd : Bool) (name : ByteArray) : full (turn Nm n name) (turn Nd n nd) (n + 1) = full Nm Nd n ++ ((if n = 0 then [] else (sep nd).data.toList) ++ name.data.toList) := by
  rw [full, turn_at, turn_at, Path.full_congr (Nm := turn Nm n name) (Nm' := Nm) (Nd := turn Nd n nd) (Nd' := Nd) n (fun i hi => turn_off _ _ _ _ (by omega)) (fun i hi => turn_off _ _ _ _ (by omega))]

theorem child_zero (Nm : Nat → ByteArray) (Nd : Nat → Bool) (nd : Bool) (name : ByteArray) : childStr Nm Nd 0 nd name = name := by
  simp [childStr, full]

theorem child_more (Nm : Nat → ByteArray) (Nd : Nat → Bool) (n : Nat) (nd : Bool) (name : ByteArray) (h : 0 < n) : childStr Nm Nd n nd name = (⟨(full Nm Nd n).toArray⟩ ++ sep nd) ++ name := by
  rw [childStr, if_neg (by omega)]
  apply ByteArray.ext
  rw [ByteArray.data_append, ByteArray.data_append]
  apply Array.ext'
  simp

/-- String of one link that lies beside a chain. -/
theorem string_child (C n : Nat) (G : Nat → Nat) (Nm : Nat → ByteArray) (Nd : Nat → Bool) (u : Option Addr) (name : ByteArray) (nd : Bool) (w : World) (hC : Chain w G Nm Nd n) (hu : ptrAt G n = .pointer u) (hlt : C < w.heap.size)
    (c0 : w.cell? ⟨C, 0, none⟩ = some (.pointer u)) (c1 : w.cell? ⟨C, 1, none⟩ = some (.string name)) (c2 : w.cell? ⟨C, 2, none⟩ = some (.bool nd)) (hn : n ≤ 65536) (hf : (full Nm Nd n).length ≤ 1310720) (hnm : name.size ≤ 1048576) :
    Calls Try.prog 20 #[.pointer (some ⟨C, 0, none⟩)] w fun e w' => e = .returned (.string (childStr Nm Nd n nd name)) ∧ Below w.heap.size w w' := by
  have hch : Chain w (turn G n C) (turn Nm n name) (turn Nd n nd) (n + 1) := by
    intro i hi
    by_cases e : i = n
    · subst e
      rw [turn_at, turn_at, turn_at, ptr_congr (G := turn G i C) (G' := G) i (fun j hj => turn_off _ _ _ _ (by omega)), hu]
      exact ⟨hlt, c0, c1, c2⟩
    · rw [turn_off _ _ _ _ e, turn_off _ _ _ _ e, turn_off _ _ _ _ e, ptr_congr (G := turn G n C) (G' := G) i (fun j hj => turn_off _ _ _ _ (by omega))]
      exact hC i (by omega)
  have hlen : (full (turn Nm n name) (turn Nd n nd) (n + 1)).length ≤ 140737488355328 := by
    rw [full_turn, List.length_append, List.length_append, Path.len_data]
    by_cases h0 : n = 0
    · rw [if_pos h0, List.length_nil]
      omega
    · rw [if_neg h0, Path.len_data, Path.sep_size]
      omega
  have S := string_walk (turn G n C) (turn Nm n name) (turn Nd n nd) (n + 1) w hch (by omega) hlen
  rw [ptrAt, turn_at, full_turn] at S
  exact S

/-- Two links laid one behind the other. -/
theorem box2 (w : World) (x0 x1 x2 y0 y1 y2 : Value) :
    ((w.alloc (.cells #[x0, x1, x2] 41)).alloc (.cells #[y0, y1, y2] 41)).heap.size = w.heap.size + 2 ∧
    (((w.alloc (.cells #[x0, x1, x2] 41)).alloc (.cells #[y0, y1, y2] 41)).cell? ⟨w.heap.size, 0, none⟩ = some x0 ∧ ((w.alloc (.cells #[x0, x1, x2] 41)).alloc (.cells #[y0, y1, y2] 41)).cell? ⟨w.heap.size, 1, none⟩ = some x1 ∧
      ((w.alloc (.cells #[x0, x1, x2] 41)).alloc (.cells #[y0, y1, y2] 41)).cell? ⟨w.heap.size, 2, none⟩ = some x2) ∧
    (((w.alloc (.cells #[x0, x1, x2] 41)).alloc (.cells #[y0, y1, y2] 41)).cell? ⟨w.heap.size + 1, 0, none⟩ = some y0 ∧ ((w.alloc (.cells #[x0, x1, x2] 41)).alloc (.cells #[y0, y1, y2] 41)).cell? ⟨w.heap.size + 1, 1, none⟩ = some y1 ∧
      ((w.alloc (.cells #[x0, x1, x2] 41)).alloc (.cells #[y0, y1, y2] 41)).cell? ⟨w.heap.size + 1, 2, none⟩ = some y2) := by
  refine ⟨by simp, ⟨?_, ?_, ?_⟩, ⟨?_, ?_, ?_⟩⟩ <;> simp [go_sem]

set_option maxRecDepth 100000 in
set_option maxHeartbeats 1000000 in
theorem ext_walk (a : Option Addr) (n c : Nat) (name : ByteArray) (needed : Bool) (Nm : Nat → ByteArray) (Nd : Nat → Bool) (w : World) (hn : n ≤ maxLen) (hnm : name.size ≤ maxLen) (hL : Links w a n Nm Nd) :
    Calls Try.prog 7 #[.slice a n c, .string name, .bool needed] w fun e w' => e = .returned (.bool true) ∧ Below w.heap.size w w' := by
  go_enter Try.func7, Try.ntmps7
  go_wp2_with fail
  refine (bytes22 a n c name needed Nm Nd _ hn hnm hL).mono ?_
  rintro e w' ⟨⟨B, rfl, hB⟩, rfl⟩
  unfold maxLen at hn hnm
  cases B with
  | false =>
    clear hB
    go_wp2
    go_ret
    exact ⟨rfl, Below.refl _ _⟩
  | true =>
    have hsz := hB rfl
    have HL := hide hL
    clear hB hL
    by_cases h65 : n ≤ 65536
    · by_cases h66 : name.size ≤ 65536
      · by_cases h67 : 24 * n + name.size ≤ 1048576
        · go_wp2
          go_loop [7, 8] (fun t i => ∃ k m : Nat, k ≤ n ∧ m ≤ 1048576 ∧ Hid (m = sizes Nm k) ∧ t = .int .i64 (24 * n + name.size + m) ∧ i = .int .i64 k) (fun _ i => n - (intOf i).toNat)
          case atStart => exact ⟨0, 0, Nat.zero_le _, Nat.zero_le _, rfl, by go_num, rfl⟩
          case round =>
            obtain ⟨k, m, hk, hm, HM, rfl, rfl⟩ := hrel
            by_cases hlt : k < n
            · obtain ⟨_, hb, hr⟩ := unhide HL
              obtain ⟨b, off, rfl, hbw, hc⟩ := hr.resolve_left (by omega)
              have hc1 := (hc k hlt).1
              have hs : m + (Nm k).size ≤ 1048576 := by
                have h1 := unhide HM
                have h2 := Path.sizes_mono Nm (k + 1) n (by omega)
                rw [sizes] at h2
                omega
              have HM2 : Hid (m + (Nm k).size = sizes Nm (k + 1)) := by
                have := unhide HM
                show m + (Nm k).size = sizes Nm (k + 1)
                rw [sizes]
                omega
              clear hc hr hb HM
              generalize Nm k = x at hc1 hs HM2
              go_wp2
              · go_ret
                exact ⟨rfl, Below.refl _ _⟩
              · go_round
                case rel => exact ⟨k + 1, m + x.size, by omega, by omega, HM2, by go_num, by go_num⟩
                case measure => simp [intOf]; omega
            · clear HM hm
              go_wp2_with fail
              refine (cloneLinks a n c Nm Nd _ (by omega) (unhide HL)).mono ?_
              rintro e w1 ⟨ao, rfl, hL1, hb1⟩
              go_wp2_with fail
              refine (buildPath ao n n Nm Nd _ (by omega) hL1).mono ?_
              rintro e w2 ⟨rfl, hC2, hb2⟩
              have hfb := full_bound (Nd := Nd) h65 (show n + sizes Nm n ≤ 1048576 by omega) (Nat.le_refl n)
              generalize (fun i => w1.heap.size + i) = G at *
              clear hL1 HL
              go_wp2_with fail
              refine (string_walk G Nm Nd n _ hC2 (by omega) (by omega)).mono ?_
              rintro e w3 ⟨rfl, hb3⟩
              have hC3 := hC2.later hb3
              have hB3 : Below w.heap.size w w3 := (hb1.trans (hb2.mono hb1.size)).trans (hb3.mono (Nat.le_trans hb1.size hb2.size))
              obtain ⟨u, hu⟩ := ptr_form G n
              have HC3 := hide hC3
              have HU := hide hu
              rw [hu]
              clear hC2 hb1 hb2 hb3 hC3 hu
              go_wp2_with fail
              obtain ⟨b0, ⟨b1, b2, b3⟩, ⟨b4, b5, b6⟩⟩ := box2 w3 (.pointer u) (.string name) (.bool needed) (.pointer u) (.string name) (.bool !needed)
              have hb4 : Below w3.heap.size w3 ((w3.alloc (.cells #[.pointer u, .string name, .bool needed] 41)).alloc (.cells #[.pointer u, .string name, .bool !needed] 41)) := ((Below.refl _ _).alloc (Nat.le_refl _) _).alloc (by simp) _
              refine (string_child w3.heap.size n G Nm Nd u name needed _ ((unhide HC3).later hb4) (unhide HU) (by rw [b0]; omega) b1 b2 b3 h65 hfb (by omega)).mono ?_
              rintro e w5 ⟨rfl, hb5⟩
              have hs5 : w3.heap.size + 2 ≤ w5.heap.size := by have := hb5.size; omega
              have d4 := (hb5.cell (p := ⟨w3.heap.size + 1, 0, none⟩) (by rw [b0]; show w3.heap.size + 1 < _; omega)).trans b4
              have d5 := (hb5.cell (p := ⟨w3.heap.size + 1, 1, none⟩) (by rw [b0]; show w3.heap.size + 1 < _; omega)).trans b5
              have d6 := (hb5.cell (p := ⟨w3.heap.size + 1, 2, none⟩) (by rw [b0]; show w3.heap.size + 1 < _; omega)).trans b6
              have hC5 := ((unhide HC3).later hb4).later hb5
              have hB5 : Below w3.heap.size w3 w5 := hb4.trans (hb5.mono (by rw [b0]; omega))
              clear b0 b1 b2 b3 b4 b5 b6 hb4 hb5
              have HC5 := hide hC5
              clear hC5 HC3
              go_wp2_with fail
              refine (string_child (w3.heap.size + 1) n G Nm Nd u name (!needed) _ (unhide HC5) (unhide HU) (by omega) d4 d5 d6 h65 hfb (by omega)).mono ?_
              rintro e w6 ⟨rfl, hb6⟩
              have S := string_walk G Nm Nd n w6 ((unhide HC5).later hb6) (by omega) (by omega)
              rw [unhide HU] at S
              have HS := hide S
              clear S d4 d5 d6 HC5
              go_wp2_with fail
              refine (unhide HS).mono ?_
              rintro e w7 ⟨rfl, hb7⟩
              have hB7 : Below w.heap.size w w7 := (hB3.trans (hB5.mono hB3.size)).trans ((hb6.trans (hb7.mono hb6.size)).mono (Nat.le_trans hB3.size hB5.size))
              clear HS hb6 hb7 hB5 hB3 hs5
              by_cases h0 : 0 < n
              · rw [child_more Nm Nd n needed name h0, child_more Nm Nd n (!needed) name h0]
                obtain ⟨x, rfl⟩ : ∃ x, u = some x := by
                  obtain ⟨n', rfl⟩ : ∃ n', n = n' + 1 := ⟨n - 1, by omega⟩
                  have := unhide HU
                  rw [ptrAt] at this
                  cases this
                  exact ⟨_, rfl⟩
                have z1 : (⟨(full Nm Nd n).toArray⟩ : ByteArray).size ≤ 1310720 := by
                  show (full Nm Nd n).toArray.size ≤ _
                  rw [List.size_toArray]
                  exact hfb
                have z2 : (sep needed).size ≤ 3 := by rw [Path.sep_size]; omega
                have z3 : (sep !needed).size ≤ 3 := by rw [Path.sep_size]; omega
                generalize (⟨(full Nm Nd n).toArray⟩ : ByteArray) = before at *
                have z4 : (before ++ sep needed).size ≤ 1310723 := by rw [ByteArray.size_append]; omega
                have z5 : (before ++ sep !needed).size ≤ 1310723 := by rw [ByteArray.size_append]; omega
                go_wp2_with (first | (go_at_call_of 21 (Value.bool needed); refine (zzSep needed _).mono ?_; rintro e w' ⟨rfl, rfl⟩) | (go_at_call 21; refine (zzSep (!needed) _).mono ?_; rintro e w' ⟨rfl, rfl⟩))
                go_ret
                exact ⟨rfl, hB7⟩
              · have e0 : n = 0 := by omega
                have hun : u = none := by
                  have := unhide HU
                  rw [e0, ptrAt] at this
                  cases this
                  rfl
                subst hun
                have c1 : childStr Nm Nd n needed name = name := by rw [e0]; exact child_zero Nm Nd needed name
                have c2 : childStr Nm Nd n (!needed) name = name := by rw [e0]; exact child_zero Nm Nd (!needed) name
                rw [c1, c2]
                clear c1 c2 e0
                generalize (⟨(full Nm Nd n).toArray⟩ : ByteArray) = before at *
                go_wp2
                go_ret
                exact ⟨rfl, hB7⟩
        · go_wp2
          go_ret
          exact ⟨rfl, Below.refl _ _⟩
      · go_wp2
        go_ret
        exact ⟨rfl, Below.refl _ _⟩
    · go_wp2
      go_ret
      exact ⟨rfl, Below.refl _ _⟩

end Go.Proofs.Qxb6603331a
