/- The walk of Key.Strings at a comma. -/
import Derived.Test.YtfnncdngfggcjaaGreatDoorSt2
import Derived.Deep.CutRange
namespace Go.Proofs.YtfnncdngfggcjaaGreatDoor
open Go.RowKit

set_option maxRecDepth 100000 in
set_option maxHeartbeats 8000000 in
theorem keyStrings_any (kb : Nat) (s : ByteArray) (w : World) (hS : Hid (Calls Tryz.prog 56 #[ptr kb] w fun e w' => e = .returned (.string s) ∧ w = w')) (hpos : 0 < s.size) (hsz : s.size ≤ 4096) (hch : Hid (∀ (i : Nat) (c : UInt8), s.data.toList[i]? = some c → c.toNat < 128 ∧ c ≠ 92)) (ht : Hid (SpcTab w)) :
    Calls Tryz.prog 60 #[ptr kb, .string ⟨#[44]⟩] w fun e w' => ∃ v', e = .returned v' ∧ Hid (Row w' 9 v' (strs (splitC s.data.toList []))) ∧ Hid (Ch [] w w') := by
  have hn0 : ((s.size : Int) == 0) = false := beq_eq_false_iff_ne.2 (by omega)
  unfold ptr at *
  go_enter Tryz.func60, Tryz.ntmps60
  go_wp2_with (first
    | (go_at_call 56; refine hS.out.mono ?_; rintro e w' ⟨rfl, rfl⟩)
    | (go_at_call 81; refine (zzCount_any s _ hsz).mono ?_
       rintro e w' ⟨n, hn, rfl, rfl⟩
       have hmk := fun W => make_strs W n (by omega)
       have HR0 := Lib.hid ((make_row w n (by omega)).alloc (.cells #[.pointer none, .slice none 0 0] 118))
       have HB0 := Lib.hid (Blk.newM (w.alloc (.cells (Array.replicate (n + 1) (Value.string es)) 9)) 118 [.pointer none, .slice none 0 0] (w.heap.size + 1) (by simp))
       have HC0 : Hid (Ch [] w ((w.alloc (.cells (Array.replicate (n + 1) (Value.string es)) 9)).alloc (.cells #[.pointer none, .slice none 0 0] 118))) := ((Ch.refl [] w).alloc _).alloc _)
    | (go_at_call 82; go_loud (refine (grow_b (w.heap.size + 1) s.size _ HB0.out hsz).mono ?_)
       rintro e w3 ⟨x3, rfl, HB3, HL3⟩
       have HC3 : Hid (Ch [] w w3) := HC0.out.below_step HL3.out (by omega)
       have HR3 : Hid (Row w3 9 (.slice (some ⟨w.heap.size, 0, none⟩) 0 (n + 1)) (strs [])) := HR0.out.same (fun g hg => by cases hg; exact HL3.out.block w.heap.size (Nat.lt_succ_self _))
       clear hmk))
  have HA3 : Hid (SpAt s (w.heap.size + 1) w w3 0 [] [] (.slice (some ⟨w.heap.size, 0, none⟩) 0 (n + 1))) :=
    { row := HR3.out, bld := HB3.out, eq := by rw [List.drop_zero]; rfl, ch := HC3.out, asc := (fun c hc => by cases hc), own := (fun g hg => by cases hg; exact Nat.le_refl _), gb := Nat.le_succ _, ll := Nat.le_refl _, cl := Nat.le_refl _ }
  clear HR0 HB0 HC0 HB3 HL3 HC3 HR3
  go_loopg [7, 9] (s.size + 1) (fun gf s7 s9 wx => ∃ (i : Nat) (L : List ByteArray) (cur : List UInt8) (a7 : Option Addr) (n7 c7 : Nat), i < s.size ∧ gf = s.size + 1 - i ∧ s9 = .int .i64 i ∧ s7 = .slice a7 n7 c7 ∧ Hid (L.length = n7) ∧ Hid (SpAt s (w.heap.size + 1) w wx i L cur (.slice a7 n7 c7)))
  case atStart => exact ⟨0, [], [], _, 0, _, hpos, rfl, rfl, rfl, rfl, HA3⟩
  case round =>
    obtain ⟨i, L, cur, a7, n7, c7, hi, hgi, rfl, rfl, HLN, HA⟩ := hrel
    obtain ⟨c, hc⟩ : ∃ c, s.data.toList[i]? = some c := ⟨_, List.getElem?_eq_getElem (by rw [toList_length]; exact hi)⟩
    obtain ⟨hca, hc92⟩ := hch.out i c hc
    have hbt := bt_at hc
    have h92 : ((s[i].toNat : Int) == 92) = false := beq_eq_false_iff_ne.2 (by
      rw [bt_get s i hi, hbt]
      intro e
      exact hc92 (UInt8.toNat_inj.1 (by show c.toNat = 92; omega)))
    have HPF := fun b hb => Lib.hid (prefix_at s i c b hc hb)
    have HDC := Lib.hid (decode_at s i c hc hca)
    have HSP := fun (W : World) (hW : Ch [] w W) => ht.out.nil hW
    have hll : n7 ≤ i := by have h1 := HA.out.ll; have h2 := HLN.out; omega
    have hcl := HA.out.cl
    have HAC := Lib.hid hc
    have HCA := Lib.hid hca
    have HSPC := Lib.hid HSP
    clear hbt hc92 HSP
    have HSL : Hid ((strs L).length = n7) := (strs_len L).trans HLN.out
    by_cases h44 : c = 44
    · have HP := HPF true (decide_eq_true h44).symm
      have H44 := Lib.hid h44
      clear HPF h44 hc
      have HC44 : Hid (s.data.toList[i]? = some 44) := by have h1 := HAC.out; rw [H44.out] at h1; exact h1
      by_cases hlast : i + 1 < s.size
      · go_wp2_with (first
          | (go_at_call 83; refine (HP.out _).mono ?_; rintro e w' ⟨rfl, rfl⟩)
          | (go_at_call 87; refine (string_b (w.heap.size + 1) cur _ HA.out.bld).mono ?_
             rintro e w4 ⟨rfl, HB4, HL4, HO4⟩
             have HA4 := Lib.hid (HA.out.told HB4.out HL4.out HO4.out))
          | (go_at_call 86; refine (trim_at cur _ (by omega) HA4.out.asc (HSPC.out _ HA4.out.ch)).mono ?_
             rintro e w5 ⟨rfl, HC5⟩
             have HA5 := Lib.hid (HA4.out.nil HC5.out))
          | (at_builtin; refine wpList_append_rn rfl (.tmp 73) (.tmp 76) 26 rfl 9 _ 16 Tryz.underlying26 info9 rfl _ n7 (strs L) HSL.out rfl (HA5.out.row.alloc _) ⟨w5.heap.size, 0, none⟩ 1 (.string (trimB cur)) rfl (by simp) rfl (by omega) (by omega) ?_))
        intro g cap w6 h1 h2 h3
        have HAL : Hid (Ch [] w5 (w5.alloc (.cells #[.string (trimB cur)] 9))) := (Ch.refl [] w5).alloc _
        have HR6 := Lib.hid h1
        have HC6 := Lib.hid h2
        have HG6 : Hid ((Value.slice a7 n7 c7).ownBlock = some g ∨ g = (w5.alloc (.cells #[.string (trimB cur)] 9)).heap.size) := by rw [World.size_alloc]; exact h3
        have HI6 := Lib.hid (HA5.out.push (g := g) HAL.out rfl h1 h2 HG6.out).2.1
        clear h1 h2 h3
        go_wp2_with (go_at_call 88; refine (reset_b (w.heap.size + 1) cur _ HI6.out).mono ?_
                     rintro e w7 ⟨x7, rfl, HB7, HC7⟩
                     have HA7 := Lib.hid (HA5.out.comma HC44.out HAL.out rfl HR6.out HC6.out HG6.out HB7.out HC7.out))
        go_roundg (s.size + 1 - (i + 1))
        case measure => omega
        case rel => exact ⟨i + 1, _, _, _, _, _, hlast, rfl, by go_num, rfl, (by have h1 := HLN.out; show _ = _; rw [List.length_append, h1]; rfl), HA7⟩
      · go_wp2_with (first
          | (go_at_call 83; refine (HP.out _).mono ?_; rintro e w' ⟨rfl, rfl⟩)
          | (go_at_call 87; refine (string_b (w.heap.size + 1) cur _ HA.out.bld).mono ?_
             rintro e w4 ⟨rfl, HB4, HL4, HO4⟩
             have HA4 := Lib.hid (HA.out.told HB4.out HL4.out HO4.out))
          | (go_at_call 86; refine (trim_at cur _ (by omega) HA4.out.asc (HSPC.out _ HA4.out.ch)).mono ?_
             rintro e w5 ⟨rfl, HC5⟩
             have HA5 := Lib.hid (HA4.out.nil HC5.out))
          | (at_builtin; refine wpList_append_rn rfl (.tmp 73) (.tmp 76) 26 rfl 9 _ 16 Tryz.underlying26 info9 rfl _ n7 (strs L) HSL.out rfl (HA5.out.row.alloc _) ⟨w5.heap.size, 0, none⟩ 1 (.string (trimB cur)) rfl (by simp) rfl (by omega) (by omega) ?_))
        intro g cap w6 h1 h2 h3
        have HAL : Hid (Ch [] w5 (w5.alloc (.cells #[.string (trimB cur)] 9))) := (Ch.refl [] w5).alloc _
        have HR6 := Lib.hid h1
        have HC6 := Lib.hid h2
        have HG6 : Hid ((Value.slice a7 n7 c7).ownBlock = some g ∨ g = (w5.alloc (.cells #[.string (trimB cur)] 9)).heap.size) := by rw [World.size_alloc]; exact h3
        have HI6 := Lib.hid (HA5.out.push (g := g) HAL.out rfl h1 h2 HG6.out).2.1
        clear h1 h2 h3
        go_wp2_with (first
          | (go_at_call 88; refine (reset_b (w.heap.size + 1) cur _ HI6.out).mono ?_
             rintro e w7 ⟨x7, rfl, HB7, HC7⟩
             have HA7 := Lib.hid (HA5.out.comma HC44.out HAL.out rfl HR6.out HC6.out HG6.out HB7.out HC7.out)
             have HLE : Hid (Calls Tryz.prog 89 #[.pointer (some ⟨w.heap.size + 1, 0, none⟩)] w7 fun e w' => e = .returned (.int .i64 0) ∧ w7 = w') := len_b (w.heap.size + 1) [] w7 HB7.out)
          | (go_at_call 89; refine HLE.out.mono ?_; rintro e w' ⟨rfl, rfl⟩))
        go_ret
        exact ⟨_, rfl, (by have h1 := HA7.out.row; rw [HA7.out.done0 (by omega)] at h1; exact h1), HA7.out.ch⟩
    · have HP := HPF false (decide_eq_false h44).symm
      have H44 := Lib.hid h44
      clear HPF h44 hc
      by_cases hlast : i + 1 < s.size
      · go_wp2_with (first
          | (go_at_call 83; refine (HP.out _).mono ?_; rintro e w' ⟨rfl, rfl⟩)
          | (go_at_call 85; refine (HDC.out _).mono ?_; rintro e w' ⟨rfl, rfl⟩)
          | (go_at_call 84; refine (writeRune_b (w.heap.size + 1) cur c _ HA.out.bld HCA.out (by omega)).mono ?_
             rintro e w4 ⟨x4, rfl, HB4, HL4, HO4⟩
             have HA4 := Lib.hid (HA.out.write HAC.out H44.out HCA.out HB4.out HL4.out HO4.out)))
        go_roundg (s.size + 1 - (i + 1))
        case measure => omega
        case rel => exact ⟨i + 1, L, _, _, _, _, hlast, rfl, by go_num, rfl, HLN, HA4⟩
      · go_wp2_with (first
          | (go_at_call 83; refine (HP.out _).mono ?_; rintro e w' ⟨rfl, rfl⟩)
          | (go_at_call 85; refine (HDC.out _).mono ?_; rintro e w' ⟨rfl, rfl⟩)
          | (go_at_call 84; refine (writeRune_b (w.heap.size + 1) cur c _ HA.out.bld HCA.out (by omega)).mono ?_
             rintro e w4 ⟨x4, rfl, HB4, HL4, HO4⟩
             have HA4 := Lib.hid (HA.out.write HAC.out H44.out HCA.out HB4.out HL4.out HO4.out)
             obtain ⟨cur', hcur'⟩ : ∃ x, cur ++ [c] = x := ⟨_, rfl⟩
             have hne' : cur' ≠ [] := by rw [← hcur']; simp
             have HNE := Lib.hid hne'
             clear hne'
             have hlen' : 0 < cur'.length := List.length_pos_iff.2 HNE.out
             rw [hcur'] at HA4
             have hcl' := HA4.out.cl
             clear hcur' HB4)
          | (go_at_call 89; refine (len_b (w.heap.size + 1) cur' _ HA4.out.bld).mono ?_; rintro e w' ⟨rfl, rfl⟩)
          | (go_at_call 87; refine (string_b (w.heap.size + 1) cur' _ HA4.out.bld).mono ?_
             rintro e w5 ⟨rfl, HB5, HL5, HO5⟩
             have HA5 := Lib.hid (HA4.out.told HB5.out HL5.out HO5.out))
          | (go_at_call 86; refine (trim_at cur' _ (by omega) HA5.out.asc (HSPC.out _ HA5.out.ch)).mono ?_
             rintro e w6 ⟨rfl, HC6⟩
             have HA6 := Lib.hid (HA5.out.nil HC6.out))
          | (at_builtin; refine wpList_append_rn rfl (.tmp 97) (.tmp 100) 26 rfl 9 _ 16 Tryz.underlying26 info9 rfl _ n7 (strs L) HSL.out rfl (HA6.out.row.alloc _) ⟨w6.heap.size, 0, none⟩ 1 (.string (trimB cur')) rfl (by simp) rfl (by omega) (by omega) ?_))
        intro g cap w7 h1 h2 h3
        have HAL : Hid (Ch [] w6 (w6.alloc (.cells #[.string (trimB cur')] 9))) := (Ch.refl [] w6).alloc _
        have hg7 : (Value.slice a7 n7 c7).ownBlock = some g ∨ g = (w6.alloc (.cells #[.string (trimB cur')] 9)).heap.size := by rw [World.size_alloc]; exact h3
        have h7 := HA6.out.push (g := g) HAL.out rfl h1 h2 hg7
        have HR7 := Lib.hid h7.1
        have HC7 := Lib.hid h7.2.2.1
        have HDN := Lib.hid (HA6.out.doneC (by omega) HNE.out)
        clear h1 h2 h3 hg7 h7
        go_wp2
        go_ret
        exact ⟨_, rfl, (by have h1 := HR7.out; rw [HDN.out] at h1; exact h1), HC7⟩
end Go.Proofs.YtfnncdngfggcjaaGreatDoor
