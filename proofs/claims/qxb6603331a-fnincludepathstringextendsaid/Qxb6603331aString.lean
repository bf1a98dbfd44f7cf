/-
  THE WALK OF (*IncludePath).String OVER A CHAIN THAT LIES IN MEMORY.
-/
import Derived.Test.Qxb6603331aJoin
import Derived.Test.Qxb6603331aApp
import Derived.Deep.LoopGhost
namespace Go.Proofs.Qxb6603331a
open Go.RowKit
open Path (sep full item parts glue sizes)
set_option linter.unusedVariables false

theorem Try.info9 : (Try.prog.info? 9).map (fun i => (i.zero, i.size, i.bytes)) = some (some (.string ⟨#[]⟩), 1, 16) := by kernel_rfl

/-- The pointer to the k-th link of a chain whose links lie at the heads of the blocks G 0, G 1 ..: nil ahead of the first. -/
def ptrAt (G : Nat → Nat) : Nat → Value
  | 0 => .pointer none
  | k + 1 => .pointer (some ⟨G k, 0, none⟩)

/-- The first k links lie in memory. -/
def Chain (w : World) (G : Nat → Nat) (Nm : Nat → ByteArray) (Nd : Nat → Bool) (k : Nat) : Prop :=
  ∀ i, i < k → G i < w.heap.size ∧ w.cell? ⟨G i, 0, none⟩ = some (ptrAt G i) ∧ w.cell? ⟨G i, 1, none⟩ = some (.string (Nm i)) ∧ w.cell? ⟨G i, 2, none⟩ = some (.bool (Nd i))

theorem Chain.later {w w' : World} {G : Nat → Nat} {Nm : Nat → ByteArray} {Nd : Nat → Bool} {k : Nat} (h : Chain w G Nm Nd k) (hb : Below w.heap.size w w') : Chain w' G Nm Nd k := fun i hi => by
  obtain ⟨h0, h1, h2, h3⟩ := h i hi
  exact ⟨Nat.lt_of_lt_of_le h0 hb.size, (hb.cell (p := ⟨G i, 0, none⟩) h0).trans h1, (hb.cell (p := ⟨G i, 1, none⟩) h0).trans h2, (hb.cell (p := ⟨G i, 2, none⟩) h0).trans h3⟩

theorem strs_one (xs : List ByteArray) : ∀ u ∈ xs.map Value.string, u.oneCell' = true := by
  intro u hu
  obtain ⟨_, _, rfl⟩ := List.mem_map.1 hu
  rfl

theorem bel9 {B n : Nat} {w wr w' : World} {X : Obj} {v : Value} {xs : List Value} (hbel : Below B w wr) (hB : B ≤ wr.heap.size) (hown : wr.ownsRow B 9 1 v n xs) (hg : (wr.alloc X).grownBy w' v.ownBlock) : Below B w w' :=
  (hbel.alloc hB X).grown hg (by simp; omega) (fun k hk => (hown.lt k hk).1)

theorem own9 {B : Nat} {w : World} {v : Value} {xs ys zs : List ByteArray} (e : zs = xs ++ ys) (h : w.ownsRow B 9 1 v (xs.length + ys.length) (xs.map Value.string ++ ys.map Value.string)) : w.ownsRow B 9 1 v zs.length (zs.map Value.string) := by
  subst e
  rw [List.length_append, List.map_append]
  exact h

set_option maxHeartbeats 1000000 in
theorem string_walk (G : Nat → Nat) (Nm : Nat → ByteArray) (Nd : Nat → Bool) (k : Nat) (w : World) (hC : Chain w G Nm Nd k) (hk : k ≤ 1048576) (hl : (full Nm Nd k).length ≤ 140737488355328) :
    Calls Try.prog 20 #[ptrAt G k] w fun e w' => e = .returned (.string ⟨(full Nm Nd k).toArray⟩) ∧ Below w.heap.size w w' := by
  obtain ⟨i0, hi, hz0, hz1, hz2⟩ := info_parts Try.info9
  have HC := hide hC
  clear hC
  go_enter Try.func20, Try.ntmps20
  go_wp2
  go_loopg [0, 3] k (fun gk p v wr => gk ≤ k ∧ p = ptrAt G gk ∧ wr.ownsRow w.heap.size 9 1 v (parts Nm Nd k (k - gk)).length ((parts Nm Nd k (k - gk)).map Value.string) ∧ Below w.heap.size w wr)
  case atStart => exact ⟨Nat.le_refl _, rfl, by rw [Nat.sub_self]; exact World.ownsRow_nil _ _ _ _, Below.refl _ _⟩
  case round =>
    obtain ⟨hgk, rfl, hown, hbel⟩ := hrel
    have hsz := hbel.size
    have hpl := Path.parts_length Nm Nd k (k - gk)
    cases gk with
    | zero =>
      rw [Nat.sub_zero] at hown hpl
      have hgl := Path.glue_parts Nm Nd k
      have HG := hide hgl
      clear hgl
      rw [ptrAt]
      go_wp2_with fail
      refine (rev_own w.heap.size _ (parts Nm Nd k k) _ hown (by omega)).mono ?_
      rintro e w1 ⟨rfl, hrow, hb1⟩
      go_wp2_with fail
      refine (join_own _ (parts Nm Nd k k).reverse _ hrow (by rw [List.length_reverse]; omega) (by rw [unhide HG]; exact hl)).mono ?_
      rintro e w2 ⟨rfl, hb2⟩
      rw [unhide HG]
      go_wp2
      go_ret
      exact ⟨rfl, (hbel.trans hb1).trans (hb2.mono (Nat.le_trans hsz hb1.size))⟩
    | succ i =>
      obtain ⟨g0, g1, g2, g3⟩ := unhide HC i (by omega)
      have c2 : wr.cell? ⟨G i, 1, none⟩ = some (.string (Nm i)) := (hbel.cell (p := ⟨G i, 1, none⟩) g0).trans g2
      have ek : k - i = (k - (i + 1)) + 1 := by omega
      have ep : parts Nm Nd k (k - i) = parts Nm Nd k (k - (i + 1)) ++ item Nm Nd i := by
        rw [ek, parts, show k - 1 - (k - (i + 1)) = i by omega]
      have EP := hide ep
      clear ek ep g2
      generalize parts Nm Nd k (k - (i + 1)) = xs at *
      rw [ptrAt]
      go_wp2_with (at_builtin; refine wpList_append_own _ rfl (.tmp 10) (.tmp 15) 57 rfl w.heap.size 9 i0 (.string ⟨#[]⟩) 1 16 Try.underlying57 hi hz0 hz1 hz2 rfl (by decide) _ _ _ rfl (hown.alloc _) ⟨wr.heap.size, 0, none⟩ 1 1 ([Nm i].map Value.string) rfl rfl (news_new wr _ _) (strs_one _) (by unfold maxLen; omega) (by omega) (by simp; omega) ?_)
      intro v1 w1 hown1 hgrow1 _
      have hbel1 := bel9 hbel hsz hown hgrow1
      have c1 : w1.cell? ⟨G i, 0, none⟩ = some (ptrAt G i) := (hbel1.cell (p := ⟨G i, 0, none⟩) g0).trans g1
      have c3 : w1.cell? ⟨G i, 2, none⟩ = some (.bool (Nd i)) := (hbel1.cell (p := ⟨G i, 2, none⟩) g0).trans g3
      have hsz1 := hbel1.size
      clear hown hgrow1 hbel hsz g3
      cases i with
      | zero =>
        rw [ptrAt] at c1
        have R1 := own9 (xs := xs) (ys := [Nm 0]) (unhide EP) (by simpa using hown1)
        clear hown1 EP g1
        go_wp2
        go_roundg 0
        case measure => omega
        case rel => exact ⟨by omega, rfl, R1, hbel1⟩
      | succ j =>
        rw [ptrAt] at c1 g1
        cases hnd : Nd (j + 1) with
        | true =>
          rw [hnd] at c3
          have EI : Hid (parts Nm Nd k (k - (j + 1)) = xs ++ [Nm (j + 1)] ++ [sep true]) := by
            have := unhide EP
            rw [item, if_neg (by omega), hnd] at this
            rw [this]
            simp [Hid]
          clear EP
          go_wp2_with (at_builtin; refine wpList_append_own _ rfl (.tmp 31) (.tmp 32) 57 rfl w.heap.size 9 i0 (.string ⟨#[]⟩) 1 16 Try.underlying57 hi hz0 hz1 hz2 rfl (by decide) _ _ _ rfl (hown1.alloc _) ⟨w1.heap.size, 0, none⟩ 1 1 ([sep true].map Value.string) rfl rfl (news_new w1 _ _) (strs_one _) (by unfold maxLen; omega) (by omega) (by simp; omega) ?_)
          intro v2 w2 hown2 hgrow2 _
          have hbel2 := bel9 hbel1 hbel1.size hown1 hgrow2
          have R1 := own9 (xs := xs ++ [Nm (j + 1)]) (ys := [sep true]) (unhide EI) (by simpa using hown2)
          have d1 : w2.cell? ⟨G (j + 1), 0, none⟩ = some (.pointer (some ⟨G j, 0, none⟩)) := (hbel2.cell (p := ⟨G (j + 1), 0, none⟩) g0).trans g1
          clear hown2 hgrow2 hown1 c1 c2 c3
          go_wp2
          go_roundg (j + 1)
          case measure => omega
          case rel => exact ⟨by omega, rfl, R1, hbel2⟩
        | false =>
          rw [hnd] at c3
          have EI : Hid (parts Nm Nd k (k - (j + 1)) = xs ++ [Nm (j + 1)] ++ [sep false]) := by
            have := unhide EP
            rw [item, if_neg (by omega), hnd] at this
            rw [this]
            simp [Hid]
          clear EP
          go_wp2_with (at_builtin; refine wpList_append_own _ rfl (.tmp 17) (.tmp 18) 57 rfl w.heap.size 9 i0 (.string ⟨#[]⟩) 1 16 Try.underlying57 hi hz0 hz1 hz2 rfl (by decide) _ _ _ rfl (hown1.alloc _) ⟨w1.heap.size, 0, none⟩ 1 1 ([sep false].map Value.string) rfl rfl (news_new w1 _ _) (strs_one _) (by unfold maxLen; omega) (by omega) (by simp; omega) ?_)
          intro v2 w2 hown2 hgrow2 _
          have hbel2 := bel9 hbel1 hbel1.size hown1 hgrow2
          have R1 := own9 (xs := xs ++ [Nm (j + 1)]) (ys := [sep false]) (unhide EI) (by simpa using hown2)
          have d1 : w2.cell? ⟨G (j + 1), 0, none⟩ = some (.pointer (some ⟨G j, 0, none⟩)) := (hbel2.cell (p := ⟨G (j + 1), 0, none⟩) g0).trans g1
          clear hown2 hgrow2 hown1 c1 c2 c3
          go_wp2
          go_roundg (j + 1)
          case measure => omega
          case rel => exact ⟨by omega, rfl, R1, hbel2⟩

end Go.Proofs.Qxb6603331a
