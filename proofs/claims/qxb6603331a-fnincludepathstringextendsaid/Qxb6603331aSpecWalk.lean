/-
  THE WALK OF FnIncludePathStringSpec.
-/
import Derived.Test.Qxb6603331aBuild
import Derived.Laws.BytesArg
namespace Go.Proofs.Qxb6603331a
open Go.RowKit
open Path (sep full item parts glue sizes)
set_option linter.unusedVariables false

/-- Bytes as cells. -/
def bcells (l : List UInt8) : List Value := l.map fun b => Value.int .u8 b.toNat

theorem bcells_append (a b : List UInt8) : bcells (a ++ b) = bcells a ++ bcells b := by simp [bcells]
theorem strs_bcells (s : ByteArray) : Lib.strCells s = bcells s.data.toList := rfl

theorem own_more {B : Nat} {w : World} {v : Value} {x y : List UInt8} {s : ByteArray} (e : y = x ++ s.data.toList) (h : w.ownsRow B 5 1 v (x.length + s.size) (bcells x ++ Lib.strCells s)) : w.ownsRow B 5 1 v y.length (bcells y) := by
  subst e
  rw [List.length_append, bcells_append, Path.len_data]
  exact h

theorem nums_back (l : List UInt8) : strOfNums (l.map fun b => ((b.toNat : Nat) : Int)) = ⟨l.toArray⟩ := by
  unfold strOfNums
  congr 1
  rw [List.map_map]
  congr 1
  have : ((fun n : Int => UInt8.ofNat n.toNat) ∘ fun b : UInt8 => ((b.toNat : Nat) : Int)) = id := by
    funext b
    simp
  rw [this, List.map_id]

/-- string(want), want a slice of bytes that the call owns. -/
theorem run_string {wr : World} {B : Nat} {v : Value} {l : List UInt8} (h : wr.ownsRow B 5 1 v l.length (bcells l)) : (convert 22 9 v).run Try.prog wr = .ok (.string ⟨l.toArray⟩) wr := by
  rcases h.2 with ⟨hv, h0⟩ | ⟨g, cap, cur, hv, _⟩
  · subst hv
    have hl : l = [] := List.eq_nil_of_length_eq_zero h0
    subst hl
    exact run_convert_bytes_nil (P := Try.prog) wr 22 5 Try.underlying22 Try.underlying5 0 0 9 Try.underlying9
  · subst hv
    have := run_convert_bytes_arg (P := Try.prog) wr 22 5 Try.underlying22 Try.underlying5 g 0 l.length cap (l.map fun b => ((b.toNat : Nat) : Int)) (by simp) (fun i hi => by
      rw [Nat.zero_add, h.cellAt i (by omega)]
      simp [bcells, hi, List.getD]) 9 Try.underlying9
    rw [nums_back] at this
    exact this

theorem Links.later {w w' : World} {a : Option Addr} {n : Nat} {Nm : Nat → ByteArray} {Nd : Nat → Bool} (h : Links w a n Nm Nd) (hb : Below w.heap.size w w') : Links w' a n Nm Nd := by
  obtain ⟨h0, h1, h2⟩ := h
  refine ⟨h0, h1, ?_⟩
  rcases h2 with h2 | ⟨b, off, ha, hlt, hc⟩
  · exact .inl h2
  · exact .inr ⟨b, off, ha, Nat.lt_of_lt_of_le hlt hb.size, fun i hi => ⟨(hb.cell (p := ⟨b, off + i * 2, none⟩) hlt).trans (hc i hi).1, (hb.cell (p := ⟨b, off + i * 2 + 1, none⟩) hlt).trans (hc i hi).2⟩⟩

theorem full_bound {Nm : Nat → ByteArray} {Nd : Nat → Bool} {n k : Nat} (h1 : n ≤ 65536) (h2 : n + sizes Nm n ≤ 1048576) (hk : k ≤ n) : (full Nm Nd k).length ≤ 1310720 := by
  have h3 := Path.full_length Nm Nd k
  have h4 := Path.sizes_mono Nm k n hk
  omega

theorem bel5 {B n : Nat} {w wr w' : World} {v : Value} {xs : List Value} (hbel : Below B w wr) (hB : B ≤ wr.heap.size) (hown : wr.ownsRow B 5 1 v n xs) (hg : wr.grownBy w' v.ownBlock) : Below B w w' :=
  hbel.grown hg hB (fun k hk => (hown.lt k hk).1)

set_option maxRecDepth 100000 in
set_option maxHeartbeats 1000000 in
theorem spec_walk (a : Option Addr) (n c : Nat) (Nm : Nat → ByteArray) (Nd : Nat → Bool) (w : World) (hn : n ≤ maxLen) (hL : Links w a n Nm Nd) :
    Calls Try.prog 6 #[.slice a n c] w fun e w' => e = .returned (.bool true) ∧ Below w.heap.size w w' := by
  obtain ⟨i0, hi, hz0, hz1, hz2⟩ := info_parts Try.info5
  go_enter Try.func6, Try.ntmps6
  go_wp2_with fail
  refine (bytes17 a n c Nm Nd _ hn hL).mono ?_
  rintro e w' ⟨⟨B, rfl, hB⟩, rfl⟩
  unfold maxLen at hn
  cases B with
  | false =>
    clear hB
    go_wp2
    go_ret
    exact ⟨rfl, Below.refl _ _⟩
  | true =>
    have hsz := hB rfl
    have HL := hide hL
    clear hB hL
    by_cases h65 : n ≤ 65536
    · go_wp2
      go_loop [3, 4] (fun t i => ∃ k m : Nat, k ≤ n ∧ m ≤ 1048576 ∧ Hid (m = sizes Nm k) ∧ t = .int .i64 (24 * n + m) ∧ i = .int .i64 k) (fun _ i => n - (intOf i).toNat)
      case atStart => exact ⟨0, 0, Nat.zero_le _, Nat.zero_le _, rfl, by go_num, rfl⟩
      case round =>
        obtain ⟨k, m, hk, hm, HM, rfl, rfl⟩ := hrel
        by_cases hlt : k < n
        · obtain ⟨_, hb, hr⟩ := unhide HL
          obtain ⟨b, off, rfl, hbw, hc⟩ := hr.resolve_left (by omega)
          have hc1 := (hc k hlt).1
          have hs : m + (Nm k).size ≤ 1048576 := by
            have h1 := unhide HM
            have h2 := Path.sizes_mono Nm (k + 1) n (by omega)
            rw [sizes] at h2
            omega
          have HM2 : Hid (m + (Nm k).size = sizes Nm (k + 1)) := by
            have := unhide HM
            show m + (Nm k).size = sizes Nm (k + 1)
            rw [sizes]
            omega
          clear hc hr hb HM
          generalize Nm k = x at hc1 hs HM2
          go_wp2
          · go_ret
            exact ⟨rfl, Below.refl _ _⟩
          · go_round
            case rel => exact ⟨k + 1, m + x.size, by omega, by omega, HM2, by go_num, by go_num⟩
            case measure => simp [intOf]; omega
        · clear HM hm
          go_wp2_with fail
          refine (cloneLinks a n c Nm Nd _ (by omega) (unhide HL)).mono ?_
          rintro e w1 ⟨ao, rfl, hL1, hb1⟩
          go_wp2_with fail
          refine (buildPath ao n n Nm Nd _ (by omega) hL1).mono ?_
          rintro e w2 ⟨rfl, hC2, hb2⟩
          have hL2 := hL1.later hb2
          clear hL1
          go_wp2_with fail
          refine (string_walk _ Nm Nd n _ hC2 (by omega) (by have := full_bound (Nd := Nd) h65 hsz (Nat.le_refl n); omega)).mono ?_
          rintro e w3 ⟨rfl, hb3⟩
          have HL3 := hide (hL2.later hb3)
          have hB3 : Below w.heap.size w w3 := (hb1.trans (hb2.mono hb1.size)).trans (hb3.mono (Nat.le_trans hb1.size hb2.size))
          clear hL2 hC2 hb1 hb2 hb3 HL
          generalize ptrAt (fun i => w1.heap.size + i) n = pv
          go_wp2
          go_loopw [7, 8] (fun v i wr => ∃ k : Nat, k ≤ n ∧ i = .int .i64 k ∧ wr.ownsRow w3.heap.size 5 1 v (full Nm Nd k).length (bcells (full Nm Nd k)) ∧ Below w3.heap.size w3 wr) (fun _ i _ => n - (intOf i).toNat)
          case atStart => exact ⟨0, Nat.zero_le _, rfl, World.ownsRow_nil _ _ _ _, Below.refl _ _⟩
          case round =>
            obtain ⟨j, hj, rfl, hown, hbel⟩ := hrel
            have hsz3 := hbel.size
            have hfb := full_bound (Nd := Nd) h65 hsz hj
            by_cases hlt2 : j < n
            · obtain ⟨_, _, hr⟩ := unhide HL3
              obtain ⟨b, off, rfl, hbw, hc⟩ := hr.resolve_left (by omega)
              have s0 : w3.cell? ⟨b, off + j * 2, none⟩ = some (.string (Nm j)) := (hc j hlt2).1
              have s1 : w3.cell? ⟨b, off + j * 2 + 1, none⟩ = some (.bool (Nd j)) := (hc j hlt2).2
              have hnm : (Nm j).size ≤ 1048576 := by
                have h2 := Path.sizes_mono Nm (j + 1) n (by omega)
                rw [sizes] at h2
                omega
              have c0 := (hbel.cell (p := ⟨b, off + j * 2, none⟩) hbw).trans s0
              have c1 := (hbel.cell (p := ⟨b, off + j * 2 + 1, none⟩) hbw).trans s1
              clear hc hr
              by_cases hj0 : 0 < j
              · have EF2 : Hid (full Nm Nd (j + 1) = (full Nm Nd j ++ (sep (Nd j)).data.toList) ++ (Nm j).data.toList) := by
                  show full Nm Nd (j + 1) = _
                  rw [full, if_neg (by omega)]
                  simp
                have h3 := Path.sep_size (Nd j)
                have h3l : (full Nm Nd j ++ (sep (Nd j)).data.toList).length ≤ 1310723 := by rw [List.length_append, Path.len_data, h3]; omega
                generalize hnd : Nd j = nd at *
                generalize hx : full Nm Nd j = x at *
                have H3 := hide h3
                clear hnd hx h3
                go_wp2_with (first
                  | (go_at_call 21; refine (zzSep nd _).mono ?_; rintro e w' ⟨rfl, rfl⟩)
                  | (at_builtin; refine Lib.wpList_append_own_string _ rfl (.tmp 48) (.tmp 54) 22 9 rfl w3.heap.size 5 i0 Try.underlying22 Try.underlying9 hi hz0 hz1 hz2 _ _ _ rfl hown (sep nd) rfl (by rw [unhide H3]; unfold maxLen; omega) (by rw [unhide H3]; omega) hsz3 ?_))
                intro v1 w4 hown1 hgrow1 _
                have hown4 := own_more (y := x ++ (sep nd).data.toList) rfl hown1
                have hbel4 := bel5 hbel hsz3 hown hgrow1
                have hsz4 := hbel4.size
                have c4 := (hbel4.cell (p := ⟨b, off + j * 2, none⟩) hbw).trans s0
                clear hown1 hgrow1 hown hbel hsz3 c0 c1 s1
                generalize x ++ (sep nd).data.toList = y at *
                go_wp2_with (at_builtin; refine Lib.wpList_append_own_string _ rfl (.tmp 56) (.tmp 61) 22 9 rfl w3.heap.size 5 i0 Try.underlying22 Try.underlying9 hi hz0 hz1 hz2 _ _ _ rfl hown4 (Nm j) rfl (by unfold maxLen; omega) (by omega) hsz4 ?_)
                intro v2 w5 hown2 hgrow2 _
                have R1 := own_more (unhide EF2) hown2
                have R2 := bel5 hbel4 hsz4 hown4 hgrow2
                clear hown2 hgrow2 hown4 c4 s0
                go_wp2
                go_roundw
                case rel => exact ⟨j + 1, by omega, by go_num, R1, R2⟩
                case measure => simp [intOf]; omega
              · have EF : Hid (full Nm Nd (j + 1) = full Nm Nd j ++ (Nm j).data.toList) := by
                  show full Nm Nd (j + 1) = _
                  rw [full, if_pos (by omega)]
                  simp
                go_wp2_with (at_builtin; refine Lib.wpList_append_own_string _ rfl (.tmp 56) (.tmp 61) 22 9 rfl w3.heap.size 5 i0 Try.underlying22 Try.underlying9 hi hz0 hz1 hz2 _ _ _ rfl hown (Nm j) rfl (by unfold maxLen; omega) (by omega) hsz3 ?_)
                intro v' w' hown' hgrow' _
                have R1 := own_more (unhide EF) hown'
                have R2 := bel5 hbel hsz3 hown hgrow'
                clear hown' hgrow' hown c0 c1 s0 s1
                go_wp2
                go_roundw
                case rel => exact ⟨j + 1, by omega, by go_num, R1, R2⟩
                case measure => simp [intOf]; omega
            · obtain rfl : n = j := by omega
              have hcv := run_string hown
              go_wp2
              go_ret
              exact ⟨rfl, hB3.trans (hbel.mono hB3.size)⟩
    · go_wp2
      go_ret
      exact ⟨rfl, Below.refl _ _⟩

end Go.Proofs.Qxb6603331a
