/- Contract of File.parse where there is nothing to read. -/
import Derived.Test.YtfnncdngfggcjaaGreatDoorLd2
import Derived.Test.YtfnncdngfggcjaaGreatDoorRdM
namespace Go.Proofs.YtfnncdngfggcjaaGreatDoor
open Go.RowKit

abbrev dflt : ByteArray := ⟨#[68, 69, 70, 65, 85, 76, 84]⟩

set_option maxRecDepth 100000 in
set_option maxHeartbeats 4000000 in
theorem parse_empty (fb mb br B : Nat) (own : Nat → Nat) (sh : Bool) (dsv slv siv : Value) (dv : Option Addr) (cap : Nat) (ea fa : Addr) (w : World) (hF : FileOK B own w fb sh [] dsv slv siv mb)
    (hb : Blk w br 296 [.slice dv 0 cap, .int .i64 0, .int .i64 (-1)]) (g : Glob w B ea fa) :
    Calls Tryz.prog 125 #[ptr fb, .iface 179 (.agg #[.iface 293 (.pointer (some ⟨br, 0, none⟩))])] w fun e w' => e = .returned .nilIface ∧ Hid (∃ own' s slv' siv', FileOK B own' w' fb sh [s] dsv slv' siv' mb ∧ s.name = dflt ∧ s.keys = [] ∧ ∃ S, Ch S w w' ∧ ∀ b, b ∈ S → B ≤ b) := by
  have HFO := Lib.hid hF
  have HBR := Lib.hid hb
  have HG := Lib.hid g
  have hc := hF.file.cells
  have hf := hF.file.frees
  simp only [fileCells] at hc
  clear hF hb g
  unfold ptr
  go_enter Tryz.func125, Tryz.ntmps125
  go_wp2_with fail
  go_region_held3 (fun w' => ∀ o, w'.cell? ⟨fb, o, none⟩ = [Value.bool false, .bool false, .bool false, .bool false, .bool false, .bool false, .bool false, .bool false, .bool false, .bool sh, .bool false, .bool false, .bool false, .bool false, .bool false,
   .slice none 0 0, .string ⟨#[61, 58]⟩, .string ⟨#[61]⟩, .string ⟨#[46]⟩, .bool false, .int .i64 0, .bool false, .bool false,
   dsv, .bool true, slv, siv, .map (some mb), .nilFunc][o]?)
    (first
      | exact HFO.out.file.drew.cells
      | exact (HFO.out.file.drew.ch hch (by simp)).cells)
    ((go_at_call 131; refine (newParser_any br _).mono ?_; rintro e W ⟨pb, rb, bb, cb, rfl, h1, h2, h3, h4, hpb, hrb, hbb, hcb, hch⟩))
  apply ‹∀ (a : Act) (w : World), Code.wp _ _ _ a w → _›
  have HW : Hid (Ch [] w W) := (Ch.refl [] w).drew.trans hch (by simp)
  have HF1 := Lib.hid (HFO.out.nil HW.out)
  have HBR1 := Lib.hid (HBR.out.ch HW.out (by simp))
  have HG1 := Lib.hid (HG.out.ch HW.out (by simp))
  have HPB1 := Lib.hid hpb
  have HRB1 := Lib.hid hrb
  have HBB1 := Lib.hid hbb
  have hBsz := HG.out.hB
  simp only [World.size_drew] at h1 h2 h3 h4
  have hBrb : B ≤ rb := by omega
  have hBbb : B ≤ bb := by omega
  have hBpb : B ≤ pb := by omega
  clear hpb hrb hbb hcb hch hc hf
  go_wp2_with (first
    | (go_at_call 132; refine (bom_empty pb cb rb bb br B dv cap (-1) 1 ea fa _ HBR1.out HG1.out hBrb HRB1.out HPB1.out).mono ?_; rintro e W2 ⟨rfl, hrb2, hch2⟩
       have HAL : Hid (Alien W [rb]) := fun b hb => by
         rw [List.mem_singleton] at hb; subst hb; exact ⟨_, _, HRB1.out, by decide⟩
       have HF2 := Lib.hid (HF1.out.alien hch2 HAL.out)
       have HPB2 := Lib.hid (HPB1.out.ch hch2 (by simpa using HPB1.out.ne HRB1.out (by decide)))
       have HBB2 := Lib.hid (HBB1.out.ch hch2 (by simpa using HBB1.out.ne HRB1.out (by decide)))
       have HBR2 := Lib.hid (HBR1.out.ch hch2 (by simpa using HBR1.out.ne HRB1.out (by decide)))
       have HG2 := Lib.hid (HG1.out.ch hch2 (by simpa using hBrb))
       have HRB2 := Lib.hid hrb2
       have HC2 : Hid (Ch [rb] w W2) := (HW.out.mono (by simp)).trans hch2 (by simp)
       clear hrb2 hch2 HAL
       have hc2 := HF2.out.file.cells
       simp only [fileCells] at hc2)
    | (go_at_call 78; refine (newSection_new fb mb B own sh [] dsv slv siv dflt _ HF2.out (by decide) (by simp) (by simp)).mono ?_; rintro e W3 ⟨sb, km, kl, kh, gb, cap', g1, cap1, g2, cap2, n, rfl, hns⟩
       obtain ⟨own', hown', hF3, hnat⟩ := HF2.out.addSec hns (by simp)
       have HF3 := Lib.hid hF3
       have HNS := Lib.hid hns.ch
       have HNAT := Lib.hid hnat
       have HPB3 := Lib.hid (HPB2.out.ch hns.ch (hnat.not HPB2.out (by decide)))
       have HBB3 := Lib.hid (HBB2.out.ch hns.ch (hnat.not HBB2.out (by decide)))
       have HBR3 := Lib.hid (HBR2.out.ch hns.ch (hnat.not HBR2.out (by decide)))
       have HRB3 := Lib.hid (HRB2.out.ch hns.ch (hnat.not HRB2.out (by decide)))
       have HG3 := Lib.hid (HG2.out.ch hns.ch hnat.ge)
       clear hns hF3 hnat hown' hc2
       have hc3 := HF3.out.file.cells
       simp only [fileCells] at hc3
       have hp3 := HPB3.out.cells
       simp only [parCells] at hp3))
  refine wp_loop_rounds 2 ?_
  rw [rounds_succ]
  go_wp2_with (first
    | (go_at_call 134; refine (readUntil_eof pb cb rb bb br 0 B 1 dv cap (-1) (-1) (-1) ea fa zeros4096 _ (by decide) HBR3.out HG3.out hBrb hBbb HRB3.out HBB3.out HPB3.out).mono ?_; rintro e W4 ⟨nb, rfl, hrb4, hpb4, hch4⟩
       have HAL : Hid (Alien W3 [rb, pb]) := fun b hb => by
         simp only [List.mem_cons, List.not_mem_nil, or_false] at hb
         rcases hb with rfl | rfl
         · exact ⟨_, _, HRB3.out, by decide⟩
         · exact ⟨_, _, HPB3.out, by decide⟩
       have HF4 := Lib.hid (HF3.out.alien hch4 HAL.out)
       have HC4 := Lib.hid hch4
       have hp4 := hpb4.cells
       simp only [parCells] at hp4
       clear hrb4 hpb4 hch4 HAL hp3 hc3
       have hc4 := HF4.out.file.cells
       simp only [fileCells] at hc4)
    | (go_at_call 137; refine (trimLeft_empty _ _ _).mono ?_; rintro e W5 ⟨rfl, rfl⟩))
  rw [rounds_succ]
  go_wp2
  go_ret
  refine ⟨rfl, Lib.hid ⟨own', _, _, _, HF4.out, rfl, rfl, rb :: pb :: (mb :: fb :: (slv.ownBlock.toList ++ siv.ownBlock.toList)), ?_, ?_⟩⟩
  · refine Ch.trans (Ch.trans (HC2.out.mono (by simp)) HNS.out (fun x hx => .inl (List.mem_cons_of_mem _ (List.mem_cons_of_mem _ hx)))) HC4.out ?_
    intro x hx
    left
    simp only [List.mem_cons, List.not_mem_nil, or_false] at hx
    rcases hx with rfl | rfl <;> simp
  · intro b hb
    rw [List.mem_cons, List.mem_cons] at hb
    rcases hb with rfl | rfl | hb
    · exact hBrb
    · exact hBpb
    · exact HNAT.out.ge b hb
end Go.Proofs.YtfnncdngfggcjaaGreatDoor
