/- Contract of alone: the key that holds a text. -/
import Derived.Test.YtfnncdngfggcjaaGreatDoorStr
namespace Go.Proofs.YtfnncdngfggcjaaGreatDoor
open Go.RowKit

/-- A file with nothing but its first section. -/
def EmptyR (w0 : World) (B fb : Nat) (w' : World) : Prop := ∃ own s dsv slv siv mb, FileOK B own w' fb false [s] dsv slv siv mb ∧ s.name = dflt ∧ ∃ S, Ch S w0 w' ∧ ∀ b, b ∈ S → B ≤ b

theorem emptyFile (B : Nat) (w : World) (fb mb : Nat) (sh : Bool) (dsv : Value) (h1 : B ≤ fb) (h2 : B ≤ mb) (hf : Blk w fb 102 (fileCells sh dsv (.slice none 0 0) (.slice none 0 0) mb)) (hm : MapAt w mb []) :
    FileOK B (fun b => if b = fb ∨ b = mb then 1 else 0) w fb sh [] dsv (.slice none 0 0) (.slice none 0 0) mb :=
  { old := fun b hb => if_neg (by omega), file := hf, sl := Row.nil _ _, si := Row.nil _ _, mp := hm, secs := (fun i s hs => by simp at hs), ofb := if_pos (.inl rfl), omb := if_pos (.inr rfl),
    osl := (fun g hg => by cases hg), osi := (fun g hg => by cases hg), nodup := List.nodup_nil }

theorem empty_any (B : Nat) (ea fa : Addr) (w : World) (g : Glob w B ea fa) :
    Calls Tryz.prog 77 #[.slice none 0 0] w fun e w' => ∃ fb, e = .returned (.pointer (some ⟨fb, 0, none⟩)) ∧ Hid (EmptyR w B fb w') := by
  have hBw := g.hB
  refine empty_via w (EmptyR w B) fun dv cap W0 hW0 => ?_
  have g0 := g.ch hW0 (by simp)
  have hBW := g0.hB
  refine loadSources_via dv 0 cap false W0 (EmptyR w B) ?_ ?_ ?_
  · intro fb br mb dsb W h1 h2 h3 hf hm hb hch
    refine (parse_empty fb mb br B _ false _ _ _ dv cap ea fa W (emptyFile B W fb mb false _ (by omega) (by omega) hf hm) hb (g0.ch hch (by simp))).mono ?_
    rintro e w' ⟨rfl, own', s, slv', siv', hF, hn, _, S, hS, hB⟩
    exact ⟨rfl, own', s, _, slv', siv', mb, hF, hn, S, ((hW0.trans hch (by simp)).mono (by simp)).trans hS (fun x hx => .inl hx), hB⟩
  · rintro fb w1 w2 ⟨own', s, dsv, slv', siv', mb, hF, hn, S, hS, hB⟩ hch
    exact ⟨own', s, dsv, slv', siv', mb, hF.nil hch, hn, S, hS.trans hch (by simp), hB⟩
  · rintro fb w1 ⟨own', s, dsv, slv', siv', mb, hF, hn, S, hS, hB⟩
    exact hF.file.cells 7

/-- A key that holds the text v, in its section, in its file. -/
def AloneR (w0 : World) (B : Nat) (v : ByteArray) (kb : Nat) (w' : World) : Prop := ∃ sb fb sname km klv kh dsv slv siv mb S, Blk w' kb 107 (keyCells sb es ⟨#[107]⟩ v false false (.slice none 0 0)) ∧
  Blk w' sb 96 (secCells fb es sname km klv kh) ∧ Blk w' fb 102 (fileCells false dsv slv siv mb) ∧ Ch S w0 w' ∧ ∀ b, b ∈ S → B ≤ b

theorem s_ne_dflt : (⟨#[115]⟩ : ByteArray) ≠ dflt := fun h => absurd (congrArg ByteArray.size h) (by decide)
theorem s_new {s : SecA} (h : s.name = dflt) : (⟨#[115]⟩ : ByteArray) ∉ [s].map (·.name) := by
  rw [List.map_cons, h, List.map_nil, List.mem_singleton]
  exact s_ne_dflt

set_option maxRecDepth 100000 in
set_option maxHeartbeats 4000000 in
theorem alone_plain (B : Nat) (ea fa : Addr) (v : ByteArray) (w : World) (g : Glob w B ea fa) (hv : v.size ≤ 4096) (hno : Hid (NoPct v)) :
    Calls Tryz.prog 57 #[.string v] w fun e w' => ∃ kb, e = .returned (ptr kb) ∧ Hid (AloneR w B v kb w') := by
  have HE := Lib.hid (empty_any B ea fa w g)
  have hv1 : ¬ ((4096 : Int) < (v.size : Int)) := by omega
  have hv2 : decide ((4096 : Int) < (v.size : Int)) = false := decide_eq_false hv1
  have hBw := g.hB
  clear g
  go_enter Tryz.func57, Tryz.ntmps57
  go_wp2_with (first
    | (go_at_call 77; refine HE.out.mono ?_; rintro e w1 ⟨fb, rfl, own, s, dsv, slv, siv, mb, hF, hn, S, hS, hB⟩
       have HF := Lib.hid hF
       have HS := Lib.hid hS
       have HB := Lib.hid hB
       have HN := Lib.hid hn
       clear hF hS hB hn)
    | (go_at_call 78; refine (newSection_new fb mb B own false [s] dsv slv siv ⟨#[115]⟩ _ HF.out (by decide) (s_new HN.out) (by simp)).mono ?_; rintro e w2 ⟨sb, km, kl, kh, gb, cap', g1, cap1, g2, cap2, n, rfl, hns⟩
       have HNS := Lib.hid hns
       clear hns)
    | (go_at_call 79; refine (newKey_new fb sb false _ _ _ mb ⟨#[115]⟩ km kh _ [] [] ⟨#[107]⟩ v _ HNS.out.file HNS.out.sec HNS.out.hkm HNS.out.hkh HNS.out.hkl HNS.out.ne (by decide) (by simp) (by simp)).mono ?_; rintro e w3 ⟨kb, g3, cap3, rfl, hnk⟩
       have HNK := Lib.hid hnk
       clear hnk)
    | (go_at_call 55; refine (ends_plain kb sb es ⟨#[107]⟩ v false false _ _ HNK.out.key hv hno).mono ?_; rintro e w4 ⟨rfl, hch⟩))
  go_ret
  have hw1 := HS.out.size
  have hnw := HNS.out.n0
  have e1 := HNS.out.nkm
  have e2 := HNS.out.nkh
  have e3 := HNS.out.nsb
  have e4 := HNS.out.nkl
  have hfb2 : fb ∉ (km :: kh :: sb :: (Value.slice (some ⟨kl, 0, none⟩) 0 10).ownBlock.toList) := fun hm => by
    simp only [List.mem_cons] at hm
    rcases hm with h | h | h | h
    · exact HNS.out.hkm.ne HNS.out.file h.symm
    · exact HNS.out.hkh.ne HNS.out.file h.symm
    · exact HNS.out.file.ne HNS.out.sec (by decide) h
    · exact HNS.out.hkl.ne HNS.out.file (by decide) _ (by simpa using h) rfl
  refine ⟨kb, rfl, sb, fb, _, km, _, kh, _, _, _, mb, S ++ ((mb :: fb :: (slv.ownBlock.toList ++ siv.ownBlock.toList)) ++ (km :: kh :: sb :: (Value.slice (some ⟨kl, 0, none⟩) 0 10).ownBlock.toList)),
    HNK.out.key.ch hch (by simp), HNK.out.sec.ch hch (by simp), (HNS.out.file.ch HNK.out.ch hfb2).ch hch (by simp), ?_, ?_⟩
  · refine Ch.trans (Ch.trans (Ch.trans (HS.out.mono (fun x hx => .inl ?_)) HNS.out.ch (fun x hx => .inl ?_)) HNK.out.ch (fun x hx => .inl ?_)) hch (by simp)
    · exact List.mem_append_left _ hx
    · exact List.mem_append_right _ (List.mem_append_left _ hx)
    · exact List.mem_append_right _ (List.mem_append_right _ hx)
  · intro b hb
    rw [List.mem_append, List.mem_append] at hb
    rcases hb with hb | hb | hb
    · exact HB.out b hb
    · exact HF.out.ge (by rw [(HF.out.fileBlocks b hb).1]; decide)
    · simp only [List.mem_cons] at hb
      rcases hb with rfl | rfl | rfl | hb
      · omega
      · omega
      · omega
      · have : b = kl := by simpa [Value.ownBlock] using hb
        omega
end Go.Proofs.YtfnncdngfggcjaaGreatDoor
