/-
  THE WALK OF compose.appendString: a full slice (its capacity is its length) in; 'zs', then the encoding of s, in new memory out.
-/
import Derived.Test.Qxb6603331aBytes
import Derived.Test.Qxb6603331aEsc
import Derived.Laws.BitsAllLaws
namespace Go.Proofs.Qxb6603331a
open Go.RowKit
open Esc (esc escAll enc octs hexd)
set_option linter.unusedVariables false

/-- What has been written behind k rounds. -/
def content (s : ByteArray) (zs : List Int) (k : Nat) : List Int := zs ++ 34 :: escAll ((octs s).take k)

theorem content_zero (s : ByteArray) (zs : List Int) : content s zs 0 = zs ++ [34] := by simp [content, Esc.escAll_nil]
theorem content_succ (s : ByteArray) (zs : List Int) (k : Nat) (h : k < s.size) : content s zs (k + 1) = content s zs k ++ esc ((s[k].toNat : Nat) : Int) := by
  rw [content, content, Esc.octs_take_succ s k h, Esc.escAll_snoc]
  simp
theorem content_end (s : ByteArray) (zs : List Int) (k : Nat) (h : k = s.size) : content s zs k ++ [34] = zs ++ enc (octs s) := by
  rw [content, enc, List.take_of_length_le (by rw [Esc.octs_length]; omega)]
  simp
theorem content_len (s : ByteArray) (zs : List Int) (k : Nat) (h : k ≤ s.size) : (content s zs k).length ≤ zs.length + 1 + 6 * s.size := by
  have h1 := (Esc.escAll_len ((octs s).take k)).2
  have h2 : ((octs s).take k).length ≤ k := List.length_take_le _ _
  simp only [content, List.length_append, List.length_cons]
  omega

theorem own_step {s : ByteArray} {zs : List Int} {k B : Nat} {v' : Value} {w1 : World} {news : List Int} (hlt : k < s.size) (h : esc ((s[k].toNat : Nat) : Int) = news)
    (hown : w1.ownsRow B 5 1 v' ((content s zs k).length + news.length) (cellsOf (content s zs k) ++ cellsOf news)) : w1.ownsRow B 5 1 v' (content s zs (k + 1)).length (cellsOf (content s zs (k + 1))) := by
  rw [content_succ s zs k hlt, h, List.length_append, cellsOf_append]
  exact hown

/-- The new block that 'append(b, x, y ..)' lays first holds the new cells. -/
theorem news_new (w : World) (cs : Array Value) (t : TypeId) : ∀ j u, cs.toList[j]? = some u → (w.alloc (.cells cs t)).cell? ((⟨w.heap.size, 0, none⟩ : Addr).add j) = some u :=
  World.news_of_block (heap_alloc_new w _)

theorem cellsOf_one (zs : List Int) : ∀ u ∈ cellsOf zs, u.oneCell' = true := by
  intro u hu
  obtain ⟨_, _, rfl⟩ := List.mem_map.1 hu
  rfl

theorem bel_step {B n : Nat} {w wr w' : World} {X : Obj} {v : Value} {xs : List Value} (hbel : Below B w wr) (hB : B ≤ wr.heap.size) (hown : wr.ownsRow B 5 1 v n xs) (hg : (wr.alloc X).grownBy w' v.ownBlock) : Below B w w' :=
  (hbel.alloc hB X).grown hg (by simp; omega) (fun k hk => (hown.lt k hk).1)
theorem bel_drew {B n : Nat} {w wr w' : World} {X : Obj} {v : Value} {xs : List Value} (hbel : Below B w wr) (hB : B ≤ wr.heap.size) (hown : wr.ownsRow B 5 1 v n xs) (hg : (wr.alloc X).drew.grownBy w' v.ownBlock) : Below B w w' :=
  (hbel.alloc hB X).drew.grown hg (by simp; omega) (fun k hk => (hown.lt k hk).1)
theorem bel_plain {B n : Nat} {w wr w' : World} {v : Value} {xs : List Value} (hbel : Below B w wr) (hB : B ≤ wr.heap.size) (hown : wr.ownsRow B 5 1 v n xs) (hg : wr.grownBy w' v.ownBlock) : Below B w w' :=
  hbel.grown hg hB (fun k hk => (hown.lt k hk).1)

theorem and15 (c : Int) (h0 : 0 ≤ c) (h : c < 256) : bits .and .u8 c 15 = c % 16 := by
  rw [u8_and c 15 h0 h (by decide) (by decide)]
  have e : c.toNat &&& (15 : Int).toNat = c.toNat % 16 := Nat.and_two_pow_sub_one_eq_mod c.toNat 4
  rw [e]
  omega

/-- The sixteen digits. -/
theorem hex_at (x : Int) (h0 : 0 ≤ x) (h16 : x < 16) : ∀ h, (((({ data := #[48, 49, 50, 51, 52, 53, 54, 55, 56, 57, 97, 98, 99, 100, 101, 102] } : ByteArray)[x.toNat]'h).toNat : Nat) : Int) = hexd x := by
  intro h
  obtain ⟨n, rfl⟩ := Int.eq_ofNat_of_zero_le h0
  have hn : n < 16 := by omega
  have key : ∀ m : Fin 16, (((({ data := #[48, 49, 50, 51, 52, 53, 54, 55, 56, 57, 97, 98, 99, 100, 101, 102] } : ByteArray)[m.val]'(m.isLt)).toNat : Nat) : Int) = hexd (m.val : Int) := by decide
  exact key ⟨n, hn⟩

set_option maxHeartbeats 1000000 in
theorem app_full (ao : Option Addr) (n : Nat) (zs : List Int) (s : ByteArray) (w : World) (hz : zs.length = n) (hn : n ≤ 1048576) (hs : s.size ≤ 1048576) (hnone : ao = none → n = 0)
    (holds : ∀ b, ao = some b → ∀ j u, (cellsOf zs)[j]? = some u → w.cell? (b.add j) = some u) :
    Calls Try.prog 29 #[.slice ao n n, .string s] w fun e w' => ∃ v', e = .returned v' ∧
      w'.ownsRow w.heap.size 5 1 v' (zs ++ enc (octs s)).length (cellsOf (zs ++ enc (octs s))) ∧ Below w.heap.size w w' := by
  obtain ⟨i0, hi, hz0, hz1, hz2⟩ := info_parts Try.info5
  have hnone' : ao = none → n = 0 ∧ n = 0 := fun h => ⟨hnone h, hnone h⟩
  have holds' : ∀ b, ao = some b → ∀ j u, (cellsOf zs)[j]? = some u → (w.alloc (.cells #[.int .u8 34] 5)).cell? (b.add j) = some u := fun b hb j u hu =>
    ((World.grownBy_alloc w (.cells #[.int .u8 34] 5) none)).cell (holds b hb j u hu) (by simp)
  go_enter Try.func29, Try.ntmps29
  go_wp2_with (at_builtin; refine wpList_append_grows _ rfl _ _ 22 rfl 5 i0 (.int .u8 0) 1 1 Try.underlying22 hi hz0 hz1 hz2 rfl (by decide) ao n n (cellsOf zs) rfl hnone' (by simp [cellsOf, hz]) holds' ⟨w.heap.size, 0, none⟩ 1 1 (cellsOf [34]) rfl rfl (news_new w _ _) (cellsOf_one _) (by omega) (by unfold maxLen; omega) (by omega) ?_)
  intro v1 w1 hown hgrow
  have hbel : Below w.heap.size w w1 := ((Below.refl _ _).alloc (Nat.le_refl _) _).grown hgrow (by simp) (by simp)
  have hown1 : w1.ownsRow w.heap.size 5 1 v1 (content s zs 0).length (cellsOf (content s zs 0)) := by
    rw [content_zero, List.length_append, hz, cellsOf_append]
    refine ⟨hown.1, ?_⟩
    rcases hown.2 with h | ⟨g, cap, cur, hv, hb, hh, r⟩
    · exact .inl h
    · exact .inr ⟨g, cap, cur, hv, Nat.le_trans (by simp) hb, hh, r⟩
  clear hown hgrow holds holds' hnone hnone'
  go_wp2
  go_loopw [0, 5] (fun b i wr => ∃ k : Nat, k ≤ s.size ∧ i = .int .i64 k ∧ wr.ownsRow w.heap.size 5 1 b (content s zs k).length (cellsOf (content s zs k)) ∧ Below w.heap.size w wr) (fun _ i _ => s.size - (intOf i).toNat)
  case atStart => exact ⟨0, Nat.zero_le _, rfl, hown1, hbel⟩
  case round =>
    obtain ⟨k, hk, rfl, hownr, hbelr⟩ := hrel
    have hcl := content_len s zs k hk
    have hsz := hbelr.size
    clear hown1 hbel
    by_cases hlt : k < s.size
    · have hb0 : (s[k].toNat : Int) ≤ 255 := by have := s[k].toNat_lt; omega
      by_cases h34 : (s[k].toNat : Int) = 34
      · have E : Hid (esc ((s[k].toNat : Nat) : Int) = [92, 34]) := by simp [Hid, esc, h34]
        go_wp2_with (at_builtin; refine wpList_append_own _ rfl _ _ 22 rfl w.heap.size 5 i0 (.int .u8 0) 1 1 Try.underlying22 hi hz0 hz1 hz2 rfl (by decide) _ _ _ rfl (hownr.alloc _) ⟨wr.heap.size, 0, none⟩ 2 2 (cellsOf [92, 34]) rfl rfl (news_new wr _ _) (cellsOf_one _) (by unfold maxLen; omega) (by omega) (by simp; omega) ?_)
        intro v' w' hown' hgrow' _
        have R1 := own_step hlt E.out hown'
        have R2 := bel_step hbelr hsz hownr hgrow'
        clear hown' hgrow' hownr hbelr
        go_wp2
        go_roundw
        case rel => exact ⟨k + 1, by omega, by go_num, R1, R2⟩
        case measure => simp [intOf]; omega
      by_cases h92 : (s[k].toNat : Int) = 92
      · have E : Hid (esc ((s[k].toNat : Nat) : Int) = [92, 92]) := by simp [Hid, esc, h92]
        go_wp2_with (at_builtin; refine wpList_append_own _ rfl _ _ 22 rfl w.heap.size 5 i0 (.int .u8 0) 1 1 Try.underlying22 hi hz0 hz1 hz2 rfl (by decide) _ _ _ rfl (hownr.alloc _) ⟨wr.heap.size, 0, none⟩ 2 2 (cellsOf [92, 92]) rfl rfl (news_new wr _ _) (cellsOf_one _) (by unfold maxLen; omega) (by omega) (by simp; omega) ?_)
        intro v' w' hown' hgrow' _
        have R1 := own_step hlt E.out hown'
        have R2 := bel_step hbelr hsz hownr hgrow'
        clear hown' hgrow' hownr hbelr
        go_wp2
        go_roundw
        case rel => exact ⟨k + 1, by omega, by go_num, R1, R2⟩
        case measure => simp [intOf]; omega
      by_cases h8 : (s[k].toNat : Int) = 8
      · have E : Hid (esc ((s[k].toNat : Nat) : Int) = [92, 98]) := by simp [Hid, esc, h8]
        go_wp2_with (at_builtin; refine Lib.wpList_append_own_string _ rfl _ _ 22 9 rfl w.heap.size 5 i0 Try.underlying22 Try.underlying9 hi hz0 hz1 hz2 _ _ _ rfl hownr ⟨#[92, 98]⟩ rfl (by unfold maxLen; show _ + 2 ≤ _; omega) (by show _ + 2 ≤ _; omega) hsz ?_)
        intro v' w' hown' hgrow' _
        have R1 := own_step (news := [92, 98]) hlt E.out hown'
        have R2 := bel_plain hbelr hsz hownr hgrow'
        clear hown' hgrow' hownr hbelr
        go_wp2
        go_roundw
        case rel => exact ⟨k + 1, by omega, by go_num, R1, R2⟩
        case measure => simp [intOf]; omega
      by_cases h12 : (s[k].toNat : Int) = 12
      · have E : Hid (esc ((s[k].toNat : Nat) : Int) = [92, 102]) := by simp [Hid, esc, h12]
        go_wp2_with (at_builtin; refine Lib.wpList_append_own_string _ rfl _ _ 22 9 rfl w.heap.size 5 i0 Try.underlying22 Try.underlying9 hi hz0 hz1 hz2 _ _ _ rfl hownr ⟨#[92, 102]⟩ rfl (by unfold maxLen; show _ + 2 ≤ _; omega) (by show _ + 2 ≤ _; omega) hsz ?_)
        intro v' w' hown' hgrow' _
        have R1 := own_step (news := [92, 102]) hlt E.out hown'
        have R2 := bel_plain hbelr hsz hownr hgrow'
        clear hown' hgrow' hownr hbelr
        go_wp2
        go_roundw
        case rel => exact ⟨k + 1, by omega, by go_num, R1, R2⟩
        case measure => simp [intOf]; omega
      by_cases h10 : (s[k].toNat : Int) = 10
      · have E : Hid (esc ((s[k].toNat : Nat) : Int) = [92, 110]) := by simp [Hid, esc, h10]
        go_wp2_with (at_builtin; refine Lib.wpList_append_own_string _ rfl _ _ 22 9 rfl w.heap.size 5 i0 Try.underlying22 Try.underlying9 hi hz0 hz1 hz2 _ _ _ rfl hownr ⟨#[92, 110]⟩ rfl (by unfold maxLen; show _ + 2 ≤ _; omega) (by show _ + 2 ≤ _; omega) hsz ?_)
        intro v' w' hown' hgrow' _
        have R1 := own_step (news := [92, 110]) hlt E.out hown'
        have R2 := bel_plain hbelr hsz hownr hgrow'
        clear hown' hgrow' hownr hbelr
        go_wp2
        go_roundw
        case rel => exact ⟨k + 1, by omega, by go_num, R1, R2⟩
        case measure => simp [intOf]; omega
      by_cases h13 : (s[k].toNat : Int) = 13
      · have E : Hid (esc ((s[k].toNat : Nat) : Int) = [92, 114]) := by simp [Hid, esc, h13]
        go_wp2_with (at_builtin; refine Lib.wpList_append_own_string _ rfl _ _ 22 9 rfl w.heap.size 5 i0 Try.underlying22 Try.underlying9 hi hz0 hz1 hz2 _ _ _ rfl hownr ⟨#[92, 114]⟩ rfl (by unfold maxLen; show _ + 2 ≤ _; omega) (by show _ + 2 ≤ _; omega) hsz ?_)
        intro v' w' hown' hgrow' _
        have R1 := own_step (news := [92, 114]) hlt E.out hown'
        have R2 := bel_plain hbelr hsz hownr hgrow'
        clear hown' hgrow' hownr hbelr
        go_wp2
        go_roundw
        case rel => exact ⟨k + 1, by omega, by go_num, R1, R2⟩
        case measure => simp [intOf]; omega
      by_cases h9 : (s[k].toNat : Int) = 9
      · have E : Hid (esc ((s[k].toNat : Nat) : Int) = [92, 116]) := by simp [Hid, esc, h9]
        go_wp2_with (at_builtin; refine Lib.wpList_append_own_string _ rfl _ _ 22 9 rfl w.heap.size 5 i0 Try.underlying22 Try.underlying9 hi hz0 hz1 hz2 _ _ _ rfl hownr ⟨#[92, 116]⟩ rfl (by unfold maxLen; show _ + 2 ≤ _; omega) (by show _ + 2 ≤ _; omega) hsz ?_)
        intro v' w' hown' hgrow' _
        have R1 := own_step (news := [92, 116]) hlt E.out hown'
        have R2 := bel_plain hbelr hsz hownr hgrow'
        clear hown' hgrow' hownr hbelr
        go_wp2
        go_roundw
        case rel => exact ⟨k + 1, by omega, by go_num, R1, R2⟩
        case measure => simp [intOf]; omega
      by_cases h32 : (s[k].toNat : Int) < 32
      · go_wp2
        have E : Hid (esc ((s[k].toNat : Nat) : Int) = [92, 117, 48, 48, hexd (((s[k].toNat : Nat) : Int) / 16), hexd (((s[k].toNat : Nat) : Int) % 16)]) := Esc.esc_ctl (by omega) h32 h8 h12 h10 h13 h9
        have hc0 : (0 : Int) ≤ ((s[k].toNat : Nat) : Int) := by omega
        generalize hc1 : ((s[k].toNat : Nat) : Int) = c at *
        have hcc : Hid (((s[k].toNat : Nat) : Int) = c) := hc1
        clear hc1
        have ha := and15 c hc0 (by omega)
        have hx1 := hex_at (c / 16) (by omega) (by omega)
        have hx2 := hex_at (c % 16) (by omega) (by omega)
        have g1 : 0 ≤ c / 16 := by omega
        have g2 : c / 16 < 16 := by omega
        have g3 : 0 ≤ c % 16 := by omega
        have g4 : c % 16 < 16 := by omega
        go_region_law ((refine step_append_lies _ (by rfl) _ _ _ (by rfl) w.heap.size 5 i0 (.int .u8 0) 1 1 Try.underlying22 hi hz0 hz1 hz2 rfl (by decide) _ _ _ (by rfl) (hownr.alloc _) ⟨wr.heap.size, 0, none⟩ 6 6 (cellsOf [92, 117, 48, 48, hexd (c / 16), hexd (c % 16)]) (by rfl) (by rfl) (news_new wr _ _) (cellsOf_one _) (by decide) (by unfold maxLen; omega) (by omega) (by simp; omega) _ rfl ?_; intro g cap w' hown' hgrow' hat' hlt'))
        all_goals
          have R1 := own_step (news := [92, 117, 48, 48, hexd (c / 16), hexd (c % 16)]) hlt (by rw [hcc.out]; exact E.out) hown'
          have R2 := bel_drew hbelr hsz hownr hgrow'
          clear hown' hgrow' hownr hbelr hat' hlt'
          go_wp2
          go_roundw
          case rel => exact ⟨k + 1, by omega, by go_num, R1, R2⟩
          case measure => simp [intOf]; omega
      have E : Hid (esc ((s[k].toNat : Nat) : Int) = [((s[k].toNat : Nat) : Int)]) := Esc.esc_plain (by omega) h34 h92
      go_wp2_with (at_builtin; refine wpList_append_own _ rfl _ _ 22 rfl w.heap.size 5 i0 (.int .u8 0) 1 1 Try.underlying22 hi hz0 hz1 hz2 rfl (by decide) _ _ _ rfl (hownr.alloc _) ⟨wr.heap.size, 0, none⟩ 1 1 (cellsOf [((s[k].toNat : Nat) : Int)]) rfl rfl (news_new wr _ _) (cellsOf_one _) (by unfold maxLen; omega) (by omega) (by simp; omega) ?_)
      intro v' w' hown' hgrow' _
      have R1 := own_step hlt E.out hown'
      have R2 := bel_step hbelr hsz hownr hgrow'
      clear hown' hgrow' hownr hbelr
      go_wp2
      go_roundw
      case rel => exact ⟨k + 1, by omega, by go_num, R1, R2⟩
      case measure => simp [intOf]; omega
    · obtain rfl : k = s.size := by omega
      have E := content_end s zs s.size rfl
      go_wp2_with (at_builtin; refine wpList_append_own _ rfl _ _ 22 rfl w.heap.size 5 i0 (.int .u8 0) 1 1 Try.underlying22 hi hz0 hz1 hz2 rfl (by decide) _ _ _ rfl (hownr.alloc _) ⟨wr.heap.size, 0, none⟩ 1 1 (cellsOf [34]) rfl rfl (news_new wr _ _) (cellsOf_one _) (by unfold maxLen; omega) (by omega) (by simp; omega) ?_)
      intro v' w' hown' hgrow' _
      have R2 := bel_step hbelr hsz hownr hgrow'
      have R1 : w'.ownsRow w.heap.size 5 1 v' (zs ++ enc (octs s)).length (cellsOf (zs ++ enc (octs s))) := by
        rw [← E, List.length_append, cellsOf_append]
        exact hown'
      clear hown' hgrow' hownr hbelr E
      go_wp2
      go_ret
      exact ⟨v', rfl, R1, R2⟩

/-- ZZappendString hands on. -/
theorem zz_full (ao : Option Addr) (n : Nat) (zs : List Int) (s : ByteArray) (w : World) (hz : zs.length = n) (hn : n ≤ 1048576) (hs : s.size ≤ 1048576) (hnone : ao = none → n = 0)
    (holds : ∀ b, ao = some b → ∀ j u, (cellsOf zs)[j]? = some u → w.cell? (b.add j) = some u) :
    Calls Try.prog 12 #[.slice ao n n, .string s] w fun e w' => ∃ g cap, e = .returned (.slice (some ⟨g, 0, none⟩) (zs ++ enc (octs s)).length cap) ∧ w.heap.size ≤ g ∧
      w'.ownsRow w.heap.size 5 1 (.slice (some ⟨g, 0, none⟩) (zs ++ enc (octs s)).length cap) (zs ++ enc (octs s)).length (cellsOf (zs ++ enc (octs s))) ∧ Below w.heap.size w w' := by
  go_enter Try.func12, Try.ntmps12
  go_wp2_with (go_at_call 29; refine (app_full ao n zs s _ hz hn hs hnone holds).mono ?_; rintro e w' ⟨v', rfl, hown, hbel⟩)
  obtain ⟨g, cap, hv, hg, _⟩ := hown.form (by simp [enc]; omega)
  subst hv
  go_ret
  exact ⟨g, cap, rfl, hg, hown, hbel⟩

end Go.Proofs.Qxb6603331a
