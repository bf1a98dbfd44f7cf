/-
  THE WALK OF zzStrictDecode AT AN ENCODING: it returns the bytes.
-/
import Derived.Test.Qxb6603331aLaws
import Derived.Test.Qxb6603331aPos
import Derived.Deep.RegionWith
namespace Go.Proofs.Qxb6603331a
open Go.RowKit
open Esc (esc escAll enc octs hexd pos)
set_option linter.unusedVariables false

/-! ### zzHexLower at a digit -/
theorem hexl_lo (z : Int) (w : World) (h1 : 48 ≤ z) (h2 : z ≤ 57) : Calls Try.prog 30 #[.int .u8 z] w fun e w' => e = .returned (.int .i64 (z - 48)) ∧ w = w' := by
  go_enter Try.func30, Try.ntmps30
  go_wp2
  go_ret
  exact ⟨rfl, rfl⟩

theorem hexl_hi (z : Int) (w : World) (h1 : 97 ≤ z) (h2 : z ≤ 102) : Calls Try.prog 30 #[.int .u8 z] w fun e w' => e = .returned (.int .i64 (z - 97 + 10)) ∧ w = w' := by
  go_enter Try.func30, Try.ntmps30
  go_wp2
  go_ret
  exact ⟨rfl, rfl⟩

theorem hexl (x : Int) (w : World) (h1 : 0 ≤ x) (h2 : x < 16) : Calls Try.prog 30 #[.int .u8 (hexd x)] w fun e w' => e = .returned (.int .i64 x) ∧ w = w' := by
  by_cases h : x < 10
  · rw [Esc.hexd_lo h]
    refine (hexl_lo (48 + x) w (by omega) (by omega)).mono ?_
    rintro e w' ⟨rfl, rfl⟩
    exact ⟨by rw [show (48 : Int) + x - 48 = x from by omega], rfl⟩
  · rw [Esc.hexd_hi (by omega)]
    refine (hexl_hi (87 + x) w (by omega) (by omega)).mono ?_
    rintro e w' ⟨rfl, rfl⟩
    exact ⟨by rw [show (87 : Int) + x - 97 + 10 = x from by omega], rfl⟩

/-! ### one round -/
theorem dec_step {l : List Int} {j B L : Nat} {w1 : World} {c : Int} (hj : j < l.length) (hc : l.getD j 0 = c)
    (h : w1.ownsRow B 5 1 (.slice (some ⟨B, 0, none⟩) (j + 1) L) (j + 1) (cellsOf (l.take j) ++ cellsOf [c])) : w1.ownsRow B 5 1 (.slice (some ⟨B, 0, none⟩) (j + 1) L) (j + 1) (cellsOf (l.take (j + 1))) := by
  rw [Esc.take_next l j hj, cellsOf_append, hc]
  exact h

theorem bel_fits {B n L : Nat} {w wr w' : World} {X : Obj} {xs : List Value} (hbel : Below B w wr) (hB : B ≤ wr.heap.size) (hg : (wr.alloc X).grownBy w' (some B)) : Below B w w' :=
  (hbel.alloc hB X).grown hg (by simp; omega) (by simp)

/-- What the loop keeps. -/
def DecRel (l : List Int) (L : Nat) (w : World) (v i : Value) (wr : World) : Prop :=
  ∃ j : Nat, j ≤ l.length ∧ v = .slice (some ⟨w.heap.size, 0, none⟩) j L ∧ i = .int .i64 (pos l j) ∧ wr.ownsRow w.heap.size 5 1 (.slice (some ⟨w.heap.size, 0, none⟩) j L) j (cellsOf (l.take j)) ∧ Below w.heap.size w wr

set_option maxRecDepth 100000 in
set_option maxHeartbeats 2000000 in
theorem decode_enc (g o cap L : Nat) (l : List Int) (w : World) (hbd : ∀ c ∈ l, 0 ≤ c ∧ c ≤ 255) (hL : (enc l).length = L) (hLb : L ≤ 8388608) (hg : g < w.heap.size)
    (hc : ∀ j, j < L → w.cell? ⟨g, o + j, none⟩ = some (.int .u8 ((enc l).getD j 0))) :
    Calls Try.prog 13 #[.slice (some ⟨g, o, none⟩) L cap] w fun e w' => e = .returned (.tuple #[.slice (some ⟨w.heap.size, 0, none⟩) l.length L, .bool true]) ∧
      w'.ownsRow w.heap.size 5 1 (.slice (some ⟨w.heap.size, 0, none⟩) l.length L) l.length (cellsOf l) ∧ Below w.heap.size w w' := by
  obtain ⟨i0, hi, hz0, hz1, hz2⟩ := info_parts Try.info5
  have hll : l.length + 2 ≤ L := by rw [← hL]; exact Esc.len_enc l
  have c0 : w.cell? ⟨g, o, none⟩ = some (.int .u8 34) := by
    have := hc 0 (by omega)
    rw [Esc.enc_first] at this
    exact this
  have c1 : w.cell? ⟨g, o + (L - 1), none⟩ = some (.int .u8 34) := by
    rw [hc (L - 1) (by omega), Esc.enc_last l (L - 1) (by omega)]
  have HC := hide hc
  have HB := hide hbd
  have HL := hide hL
  have hpe := Esc.pos_end l
  have HPE : Hid (pos l l.length + 1 = L) := by rw [hL] at hpe; exact hpe
  clear hc hbd hL hpe
  go_enter Try.func13, Try.ntmps13
  go_wp2_with (at_make; refine wpList_make_own _ rfl _ _ 22 rfl w.heap.size 5 i0 (.int .u8 0) 1 Try.underlying22 hi hz0 hz1 _ _ _ L rfl rfl (by omega) (by rw [hz2]; omega) (by unfold maxLen; omega) (Nat.le_refl _) ?_)
  intro w1 hown hgrow
  have hbel : Below w.heap.size w w1 := (Below.refl _ _).grown hgrow (Nat.le_refl _) (by simp)
  clear hgrow c0 c1
  go_wp2
  go_loopw [5, 6] (fun v i wr => ∃ j : Nat, j ≤ l.length ∧ v = .slice (some ⟨w.heap.size, 0, none⟩) j L ∧ i = .int .i64 (pos l j) ∧ wr.ownsRow w.heap.size 5 1 (.slice (some ⟨w.heap.size, 0, none⟩) j L) j (cellsOf (l.take j)) ∧ Below w.heap.size w wr) (fun _ i _ => L - (intOf i).toNat)
  case atStart => exact ⟨0, Nat.zero_le _, rfl, by rw [Esc.pos_zero]; rfl, hown, hbel⟩
  case round =>
    obtain ⟨j, hj, rfl, rfl, hownr, hbelr⟩ := hrel
    have hsz := hbelr.size
    clear hown hbel
    by_cases hlt : j < l.length
    · have hcl : ∀ t, t < (esc (l.getD j 0)).length → wr.cell? ⟨g, o + (pos l j + t), none⟩ = some (.int .u8 ((esc (l.getD j 0)).getD t 0)) := fun t ht => by
        have hr := Esc.pos_room l j hlt
        rw [unhide HL] at hr
        rw [hbelr.cell (p := ⟨g, o + (pos l j + t), none⟩) hg, unhide HC (pos l j + t) (by omega), Esc.enc_at l j t hlt ht]
      have hps := Esc.pos_succ l j hlt
      have hpr := Esc.pos_room l j hlt
      have hb := Esc.getD_bound l (unhide HB) j
      have hp1 := Esc.pos_pos l j
      rw [unhide HL] at hpr
      generalize hcc : l.getD j 0 = c at *
      have Hcc := hide hcc
      have Hps := hide hps
      have Hcl := hide hcl
      clear hcc hps hcl
      generalize pos l j = p at *
      by_cases h34 : c = 34
      · subst h34
        have x0 := unhide Hcl 0 (by decide)
        have x1 := unhide Hcl 1 (by decide)
        have E : Hid (pos l (j + 1) = p + 2) := unhide Hps
        have hr2 : p + 2 + 1 ≤ L := hpr
        rw [show (esc 34).getD 0 0 = 92 from rfl] at x0
        rw [show (esc 34).getD 1 0 = 34 from rfl] at x1
        have x00 : wr.cell? ⟨g, o + p, none⟩ = some (.int .u8 92) := x0
        clear Hcl Hps hpr hb x0
        go_wp2_with (at_builtin; refine wpList_append_fits _ rfl (.tmp 68) (.tmp 70) 22 rfl w.heap.size 5 i0 1 Try.underlying22 hi hz1 w.heap.size j L _ rfl (hownr.alloc _) ⟨wr.heap.size, 0, none⟩ 1 1 (cellsOf [34]) rfl rfl (news_new wr _ _) (cellsOf_one _) (by omega) ?_)
        intro w' hown' hgrow'
        have R1 := dec_step hlt (unhide Hcc) hown'
        have R2 := (hbelr.alloc hsz _).grown hgrow' (by simp; omega) (by simp)
        clear hown' hgrow' hownr hbelr
        go_wp2
        go_roundw
        case rel => exact ⟨j + 1, by omega, rfl, by rw [unhide E]; go_num, R1, R2⟩
        case measure => simp [intOf]; omega
      by_cases h92 : c = 92
      · subst h92
        have x0 := unhide Hcl 0 (by decide)
        have x1 := unhide Hcl 1 (by decide)
        have E : Hid (pos l (j + 1) = p + 2) := unhide Hps
        have hr2 : p + 2 + 1 ≤ L := hpr
        rw [show (esc 92).getD 0 0 = 92 from rfl] at x0
        rw [show (esc 92).getD 1 0 = 92 from rfl] at x1
        have x00 : wr.cell? ⟨g, o + p, none⟩ = some (.int .u8 92) := x0
        clear Hcl Hps hpr hb x0
        go_wp2_with (at_builtin; refine wpList_append_fits _ rfl (.tmp 68) (.tmp 70) 22 rfl w.heap.size 5 i0 1 Try.underlying22 hi hz1 w.heap.size j L _ rfl (hownr.alloc _) ⟨wr.heap.size, 0, none⟩ 1 1 (cellsOf [92]) rfl rfl (news_new wr _ _) (cellsOf_one _) (by omega) ?_)
        intro w' hown' hgrow'
        have R1 := dec_step hlt (unhide Hcc) hown'
        have R2 := (hbelr.alloc hsz _).grown hgrow' (by simp; omega) (by simp)
        clear hown' hgrow' hownr hbelr
        go_wp2
        go_roundw
        case rel => exact ⟨j + 1, by omega, rfl, by rw [unhide E]; go_num, R1, R2⟩
        case measure => simp [intOf]; omega
      by_cases h8 : c = 8
      · subst h8
        have x0 := unhide Hcl 0 (by decide)
        have x1 := unhide Hcl 1 (by decide)
        have E : Hid (pos l (j + 1) = p + 2) := unhide Hps
        have hr2 : p + 2 + 1 ≤ L := hpr
        rw [show (esc 8).getD 0 0 = 92 from rfl] at x0
        rw [show (esc 8).getD 1 0 = 98 from rfl] at x1
        have x00 : wr.cell? ⟨g, o + p, none⟩ = some (.int .u8 92) := x0
        clear Hcl Hps hpr hb x0
        go_wp2_with (at_builtin; refine wpList_append_fits _ rfl (.tmp 76) (.tmp 77) 22 rfl w.heap.size 5 i0 1 Try.underlying22 hi hz1 w.heap.size j L _ rfl (hownr.alloc _) ⟨wr.heap.size, 0, none⟩ 1 1 (cellsOf [8]) rfl rfl (news_new wr _ _) (cellsOf_one _) (by omega) ?_)
        intro w' hown' hgrow'
        have R1 := dec_step hlt (unhide Hcc) hown'
        have R2 := (hbelr.alloc hsz _).grown hgrow' (by simp; omega) (by simp)
        clear hown' hgrow' hownr hbelr
        go_wp2
        go_roundw
        case rel => exact ⟨j + 1, by omega, rfl, by rw [unhide E]; go_num, R1, R2⟩
        case measure => simp [intOf]; omega
      by_cases h12 : c = 12
      · subst h12
        have x0 := unhide Hcl 0 (by decide)
        have x1 := unhide Hcl 1 (by decide)
        have E : Hid (pos l (j + 1) = p + 2) := unhide Hps
        have hr2 : p + 2 + 1 ≤ L := hpr
        rw [show (esc 12).getD 0 0 = 92 from rfl] at x0
        rw [show (esc 12).getD 1 0 = 102 from rfl] at x1
        have x00 : wr.cell? ⟨g, o + p, none⟩ = some (.int .u8 92) := x0
        clear Hcl Hps hpr hb x0
        go_wp2_with (at_builtin; refine wpList_append_fits _ rfl (.tmp 83) (.tmp 84) 22 rfl w.heap.size 5 i0 1 Try.underlying22 hi hz1 w.heap.size j L _ rfl (hownr.alloc _) ⟨wr.heap.size, 0, none⟩ 1 1 (cellsOf [12]) rfl rfl (news_new wr _ _) (cellsOf_one _) (by omega) ?_)
        intro w' hown' hgrow'
        have R1 := dec_step hlt (unhide Hcc) hown'
        have R2 := (hbelr.alloc hsz _).grown hgrow' (by simp; omega) (by simp)
        clear hown' hgrow' hownr hbelr
        go_wp2
        go_roundw
        case rel => exact ⟨j + 1, by omega, rfl, by rw [unhide E]; go_num, R1, R2⟩
        case measure => simp [intOf]; omega
      by_cases h10 : c = 10
      · subst h10
        have x0 := unhide Hcl 0 (by decide)
        have x1 := unhide Hcl 1 (by decide)
        have E : Hid (pos l (j + 1) = p + 2) := unhide Hps
        have hr2 : p + 2 + 1 ≤ L := hpr
        rw [show (esc 10).getD 0 0 = 92 from rfl] at x0
        rw [show (esc 10).getD 1 0 = 110 from rfl] at x1
        have x00 : wr.cell? ⟨g, o + p, none⟩ = some (.int .u8 92) := x0
        clear Hcl Hps hpr hb x0
        go_wp2_with (at_builtin; refine wpList_append_fits _ rfl (.tmp 90) (.tmp 91) 22 rfl w.heap.size 5 i0 1 Try.underlying22 hi hz1 w.heap.size j L _ rfl (hownr.alloc _) ⟨wr.heap.size, 0, none⟩ 1 1 (cellsOf [10]) rfl rfl (news_new wr _ _) (cellsOf_one _) (by omega) ?_)
        intro w' hown' hgrow'
        have R1 := dec_step hlt (unhide Hcc) hown'
        have R2 := (hbelr.alloc hsz _).grown hgrow' (by simp; omega) (by simp)
        clear hown' hgrow' hownr hbelr
        go_wp2
        go_roundw
        case rel => exact ⟨j + 1, by omega, rfl, by rw [unhide E]; go_num, R1, R2⟩
        case measure => simp [intOf]; omega
      by_cases h13 : c = 13
      · subst h13
        have x0 := unhide Hcl 0 (by decide)
        have x1 := unhide Hcl 1 (by decide)
        have E : Hid (pos l (j + 1) = p + 2) := unhide Hps
        have hr2 : p + 2 + 1 ≤ L := hpr
        rw [show (esc 13).getD 0 0 = 92 from rfl] at x0
        rw [show (esc 13).getD 1 0 = 114 from rfl] at x1
        have x00 : wr.cell? ⟨g, o + p, none⟩ = some (.int .u8 92) := x0
        clear Hcl Hps hpr hb x0
        go_wp2_with (at_builtin; refine wpList_append_fits _ rfl (.tmp 97) (.tmp 98) 22 rfl w.heap.size 5 i0 1 Try.underlying22 hi hz1 w.heap.size j L _ rfl (hownr.alloc _) ⟨wr.heap.size, 0, none⟩ 1 1 (cellsOf [13]) rfl rfl (news_new wr _ _) (cellsOf_one _) (by omega) ?_)
        intro w' hown' hgrow'
        have R1 := dec_step hlt (unhide Hcc) hown'
        have R2 := (hbelr.alloc hsz _).grown hgrow' (by simp; omega) (by simp)
        clear hown' hgrow' hownr hbelr
        go_wp2
        go_roundw
        case rel => exact ⟨j + 1, by omega, rfl, by rw [unhide E]; go_num, R1, R2⟩
        case measure => simp [intOf]; omega
      by_cases h9 : c = 9
      · subst h9
        have x0 := unhide Hcl 0 (by decide)
        have x1 := unhide Hcl 1 (by decide)
        have E : Hid (pos l (j + 1) = p + 2) := unhide Hps
        have hr2 : p + 2 + 1 ≤ L := hpr
        rw [show (esc 9).getD 0 0 = 92 from rfl] at x0
        rw [show (esc 9).getD 1 0 = 116 from rfl] at x1
        have x00 : wr.cell? ⟨g, o + p, none⟩ = some (.int .u8 92) := x0
        clear Hcl Hps hpr hb x0
        go_wp2_with (at_builtin; refine wpList_append_fits _ rfl (.tmp 104) (.tmp 105) 22 rfl w.heap.size 5 i0 1 Try.underlying22 hi hz1 w.heap.size j L _ rfl (hownr.alloc _) ⟨wr.heap.size, 0, none⟩ 1 1 (cellsOf [9]) rfl rfl (news_new wr _ _) (cellsOf_one _) (by omega) ?_)
        intro w' hown' hgrow'
        have R1 := dec_step hlt (unhide Hcc) hown'
        have R2 := (hbelr.alloc hsz _).grown hgrow' (by simp; omega) (by simp)
        clear hown' hgrow' hownr hbelr
        go_wp2
        go_roundw
        case rel => exact ⟨j + 1, by omega, rfl, by rw [unhide E]; go_num, R1, R2⟩
        case measure => simp [intOf]; omega
      by_cases h32 : c < 32
      · have hec : esc c = [92, 117, 48, 48, hexd (c / 16), hexd (c % 16)] := Esc.esc_ctl (by omega) h32 h8 h12 h10 h13 h9
        have hl6 : (esc c).length = 6 := by rw [hec]; rfl
        have x0 := unhide Hcl 0 (by omega)
        have x1 := unhide Hcl 1 (by omega)
        have x2 := unhide Hcl 2 (by omega)
        have x3 := unhide Hcl 3 (by omega)
        have x4 := unhide Hcl 4 (by omega)
        have x5 := unhide Hcl 5 (by omega)
        have E : Hid (pos l (j + 1) = p + 6) := by have := unhide Hps; rw [hl6] at this; exact this
        have hr2 : p + 6 + 1 ≤ L := by omega
        rw [hec] at x0 x1 x2 x3 x4 x5
        have y0 : wr.cell? ⟨g, o + p, none⟩ = some (.int .u8 92) := x0
        have y1 : wr.cell? ⟨g, o + (p + 1), none⟩ = some (.int .u8 117) := x1
        have y2 : wr.cell? ⟨g, o + (p + 2), none⟩ = some (.int .u8 48) := x2
        have y3 : wr.cell? ⟨g, o + (p + 3), none⟩ = some (.int .u8 48) := x3
        have y4 : wr.cell? ⟨g, o + (p + 4), none⟩ = some (.int .u8 (hexd (c / 16))) := x4
        have y5 : wr.cell? ⟨g, o + (p + 5), none⟩ = some (.int .u8 (hexd (c % 16))) := x5
        clear Hcl Hps hpr x0 x1 x2 x3 x4 x5 hec hl6
        have b1 : 0 ≤ c / 16 := by omega
        have b2 : c / 16 ≤ 1 := by omega
        have b3 : 0 ≤ c % 16 := by omega
        have b4 : c % 16 < 16 := by omega
        have ev : c / 16 * 16 + c % 16 = c := by omega
        have n8 : (c / 16 * 16 + c % 16 == 8) = false := beq_eq_false_iff_ne.2 (by omega)
        have n9 : (c / 16 * 16 + c % 16 == 9) = false := beq_eq_false_iff_ne.2 (by omega)
        have n10 : (c / 16 * 16 + c % 16 == 10) = false := beq_eq_false_iff_ne.2 (by omega)
        have n12 : (c / 16 * 16 + c % 16 == 12) = false := beq_eq_false_iff_ne.2 (by omega)
        have n13 : (c / 16 * 16 + c % 16 == 13) = false := beq_eq_false_iff_ne.2 (by omega)
        have nlt : c / 16 * 16 + c % 16 < 32 := by omega
        have nge : 0 ≤ c / 16 * 16 + c % 16 := by omega
        have Ev := hide ev
        clear ev
        generalize c / 16 = hi4 at *
        generalize c % 16 = lo4 at *
        go_wp2_with (first | (go_at_call_of 30 (Value.int IntKind.u8 (hexd hi4)); refine (hexl hi4 _ b1 (by omega)).mono ?_; rintro e w' ⟨rfl, rfl⟩) | (go_at_call_of 30 (Value.int IntKind.u8 (hexd lo4)); refine (hexl lo4 _ b3 b4).mono ?_; rintro e w' ⟨rfl, rfl⟩) | (at_builtin; refine wpList_append_fits _ rfl (.tmp 176) (.tmp 179) 22 rfl w.heap.size 5 i0 1 Try.underlying22 hi hz1 w.heap.size j L _ rfl (hownr.alloc _) ⟨wr.heap.size, 0, none⟩ 1 1 (cellsOf [hi4 * 16 + lo4]) rfl rfl (news_new wr _ _) (cellsOf_one _) (by omega) ?_))
        intro w' hown' hgrow'
        have R1 := dec_step hlt ((unhide Hcc).trans (unhide Ev).symm) hown'
        have R2 := (hbelr.alloc hsz _).grown hgrow' (by simp; omega) (by simp)
        clear hown' hgrow' hownr hbelr
        go_wp2
        go_roundw
        case rel => exact ⟨j + 1, by omega, rfl, by rw [unhide E]; go_num, R1, R2⟩
        case measure => simp [intOf]; omega
      have hec : esc c = [c] := Esc.esc_plain (by omega) h34 h92
      have x0 := unhide Hcl 0 (by rw [hec]; simp)
      have E : Hid (pos l (j + 1) = p + 1) := by have := unhide Hps; rw [hec] at this; exact this
      have hr2 : p + 1 + 1 ≤ L := by rw [hec] at hpr; exact hpr
      rw [hec] at x0
      have x00 : wr.cell? ⟨g, o + p, none⟩ = some (.int .u8 c) := x0
      clear Hcl Hps hpr x0 hec
      go_wp2_with (at_builtin; refine wpList_append_fits _ rfl (.tmp 48) (.tmp 50) 22 rfl w.heap.size 5 i0 1 Try.underlying22 hi hz1 w.heap.size j L _ rfl (hownr.alloc _) ⟨wr.heap.size, 0, none⟩ 1 1 (cellsOf [c]) rfl rfl (news_new wr _ _) (cellsOf_one _) (by omega) ?_)
      intro w' hown' hgrow'
      have R1 := dec_step hlt (unhide Hcc) hown'
      have R2 := (hbelr.alloc hsz _).grown hgrow' (by simp; omega) (by simp)
      clear hown' hgrow' hownr hbelr
      go_wp2
      go_roundw
      case rel => exact ⟨j + 1, by omega, rfl, by rw [unhide E]; go_num, R1, R2⟩
      case measure => simp [intOf]; omega
    · obtain rfl : l.length = j := by omega
      have hpe := unhide HPE
      have hpl : pos l l.length + 1 ≤ L := by omega
      have hpg : L ≤ pos l l.length + 1 := by omega
      rw [List.take_length] at hownr
      clear hpe HPE
      generalize pos l l.length = p at *
      go_wp2
      go_ret2
      exact ⟨rfl, hownr, hbelr⟩

end Go.Proofs.Qxb6603331a
