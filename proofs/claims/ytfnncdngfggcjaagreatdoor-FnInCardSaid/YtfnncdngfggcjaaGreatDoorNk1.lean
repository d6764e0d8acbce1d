/- Contract of Section.NewKey where there is no key of that name. -/
import Derived.Test.YtfnncdngfggcjaaGreatDoorNs1
namespace Go.Proofs.YtfnncdngfggcjaaGreatDoor
open Go.RowKit

theorem lookL_append {l : List (ByteArray × Value)} {k : ByteArray} {v : Value} (h : k ∉ l.map (·.1)) : lookL (l ++ [(k, v)]) k = some v := by
  induction l with
  | nil => rw [List.nil_append, lookL_cons]; simp
  | cons p r ih =>
    simp only [List.map_cons, List.mem_cons, not_or] at h
    rw [List.cons_append, lookL_cons, if_neg h.1]
    exact ih h.2

/-- What NewKey has done where there was no key of the name. -/
structure NewKeyP (w w' : World) (fb sb : Nat) (sname : ByteArray) (km kh : Nat) (klv : Value) (l : List (ByteArray × Value)) (name val : ByteArray) (kb g cap : Nat) : Prop where
  sec : Blk w' sb 96 (secCells fb es sname km (.slice (some ⟨g, 0, none⟩) ((strs (l.map (·.1))).length + 1) cap) kh)
  hkm : MapAt w' km (l ++ [(name, ptr kb)])
  hkh : ∃ lh, MapAt w' kh lh
  hkl : Row w' 9 (.slice (some ⟨g, 0, none⟩) ((strs (l.map (·.1))).length + 1) cap) (strs (l.map (·.1)) ++ [.string name])
  own : klv.ownBlock = some g ∨ w.heap.size ≤ g
  key : Blk w' kb 107 (keyCells sb es name val false false (.slice none 0 0))
  nkb : w.heap.size ≤ kb
  ch : Ch (km :: kh :: sb :: klv.ownBlock.toList) w w'

set_option maxRecDepth 100000 in
set_option maxHeartbeats 4000000 in
theorem newKey_new (fb sb : Nat) (sh : Bool) (dsv slv siv : Value) (mb : Nat) (sname : ByteArray) (km kh : Nat) (klv : Value) (l lh : List (ByteArray × Value)) (name val : ByteArray) (w : World)
    (hF : Blk w fb 102 (fileCells sh dsv slv siv mb)) (hS : Blk w sb 96 (secCells fb es sname km klv kh)) (hkm : MapAt w km l) (hkh : MapAt w kh lh) (hkl : Row w 9 klv (strs (l.map (·.1)))) (hne : km ≠ kh)
    (hn : 0 < name.size) (hno : name ∉ l.map (·.1)) (hlen : l.length ≤ 1000) :
    Calls Tryz.prog 79 #[ptr sb, .string name, .string val] w fun e w' => ∃ kb g cap, e = .returned (.tuple #[ptr kb, .nilIface]) ∧ NewKeyP w w' fb sb sname km kh klv l name val kb g cap := by
  have hcf := hF.cells
  have hff := hF.frees
  have hcs := hS.cells
  have hfs := hS.frees
  simp only [fileCells] at hcf
  simp only [secCells] at hcs
  have HF := Lib.hid hF
  have HS := Lib.hid hS
  have HKM := Lib.hid hkm
  have HKH := Lib.hid hkh
  have HKL := Lib.hid hkl
  have HNO := Lib.hid hno
  have HNE := Lib.hid hne
  have hn0 : ((name.size : Int) == 0) = false := beq_eq_false_iff_ne.2 (by omega)
  have hltf := hF.lt
  have hlts := hS.lt
  have hlen2 : (strs (l.map (·.1))).length + 1 ≤ 1000000 := by simp only [strs, List.length_map]; omega
  clear hF hS hkm hkh hkl hno hne
  unfold ptr
  go_enter Tryz.func79, Tryz.ntmps79
  go_wp2_with (first
    | (go_at_call 102; refine (inSlice_any name klv _ false (by simp only [Bool.false_eq_true, false_iff]; exact HNO.out) _ HKL.out (by simp only [List.length_map]; omega)).mono ?_; rintro e w' ⟨rfl, rfl⟩)
    | (at_builtin; refine wpList_append_row rfl (.tmp 83) (.tmp 85) 26 rfl 9 _ 16 Tryz.underlying26 info9 rfl klv _ rfl (HKL.out.alloc _) ⟨w.heap.size, 0, none⟩ 1 (.string name) rfl (by simp) rfl hlen2 (by omega) ?_))
  intro g1 cap1 w1 hr1 hch1 hg1 hg1l
  have hnS : sb ∉ klv.ownBlock.toList := fun hm => HKL.out.ne HS.out (by decide) _ (by simpa using hm) rfl
  have hnM : km ∉ klv.ownBlock.toList := fun hm => HKM.out.neRow HKL.out (by simpa using hm) rfl
  have hnH : kh ∉ klv.ownBlock.toList := fun hm => HKH.out.neRow HKL.out (by simpa using hm) rfl
  have HB1 := Lib.hid ((HS.out.alloc (.cells #[.string name] 9)).ch hch1 hnS)
  have hc1 := HB1.out.cells
  have hf1 := HB1.out.frees
  simp only [secCells] at hc1
  have HR1 := Lib.hid hr1
  have HC1 := Lib.hid hch1
  clear hr1 hch1 hcs hfs hcf hff
  go_wp2
  have hg1sb : g1 ≠ sb := HR1.out.ne HB1.out (by decide) _ rfl
  have hown : klv.ownBlock = some g1 ∨ w.heap.size ≤ g1 := by
    rcases hg1 with h | h
    · exact .inl h
    · right; rw [h]; simp
  refine wp_gen (fun W => Hid (Blk W sb 96 (secCells fb es sname km (.slice (some ⟨g1, 0, none⟩) ((strs (l.map (·.1))).length + 1) cap1) kh)) ∧
      Hid (Row W 9 (.slice (some ⟨g1, 0, none⟩) ((strs (l.map (·.1))).length + 1) cap1) (strs (l.map (·.1)) ++ [.string name])) ∧
      Hid (MapAt W km l) ∧ Hid (MapAt W kh lh) ∧ Hid (Ch (sb :: klv.ownBlock.toList) w W)) ?_ ?_
  · refine ⟨HB1.out.set 4 _, HR1.out.setCell (fun g hg => ?_) _, ((HKM.out.alloc _).ch HC1.out hnM).setCell (HKM.out.ne HS.out) _, ((HKH.out.alloc _).ch HC1.out hnH).setCell (HKH.out.ne HS.out) _, ?_⟩
    · cases hg; exact hg1sb
    · exact Ch.set (Ch.trans (Ch.alloc (Ch.refl _ _) _) HC1.out (fun x hx => .inl (List.mem_cons_of_mem _ hx))) (.inl (by simp)) _
  rintro W ⟨HB2, HR2, HM2, HH2, HC2⟩
  clear HB1 HR1 HC1 hc1 hf1 hg1l
  have hc := HB2.out.cells
  simp only [secCells] at hc
  have hlt2 := HB2.out.lt
  have hkmlt := HM2.out.lt
  have hkhlt := HH2.out.lt
  have hsz := HC2.out.size
  have HB3 := Lib.hid (HB2.out.drew.alloc (.cells (keyCells sb es name val false false (.slice none 0 0)).toArray 107))
  have HM3 := Lib.hid (HM2.out.drew.alloc (.cells (keyCells sb es name val false false (.slice none 0 0)).toArray 107))
  have hmu : (Instr.mapUpdate 93 (.map (some km)) (.string name) (.pointer (some ⟨W.heap.size, 0, none⟩))).run Tryz.prog (W.drew.alloc (.cells (keyCells sb es name val false false (.slice none 0 0)).toArray 107)) =
      .ok () (putW (W.drew.alloc (.cells (keyCells sb es name val false false (.slice none 0 0)).toArray 107)) km name (.pointer (some ⟨W.heap.size, 0, none⟩))) := run_put (P := Tryz.prog) (T := 93) (K := 9) (E := 70) rfl rfl HM3.out name _
  have hmu2 : (Instr.mapUpdate 93 (.map (some km)) (.string name) (.pointer (some ⟨W.heap.size, 0, none⟩))).run Tryz.prog (W.alloc (.cells (keyCells sb es name val false false (.slice none 0 0)).toArray 107)).drew =
      .ok () (putW (W.alloc (.cells (keyCells sb es name val false false (.slice none 0 0)).toArray 107)).drew km name (.pointer (some ⟨W.heap.size, 0, none⟩))) := hmu
  have hcm : Ch [km] W (putW (W.drew.alloc (.cells (keyCells sb es name val false false (.slice none 0 0)).toArray 107)) km name (.pointer (some ⟨W.heap.size, 0, none⟩))) := Ch.put (((Ch.refl [km] W).drew).alloc _) (.inl (by simp)) _ _
  have HCM := Lib.hid hcm
  clear hcm
  have hsbkm : sb ≠ km := fun e => HM2.out.ne HB2.out e.symm
  go_region_held3 (fun w' => w'.cell? ⟨sb, 3, none⟩ = some (.map (some km)))
    (first
      | exact (HB2.out.drew.cells 3)
      | exact (HB3.out.cells 3)
      | exact ((HB2.out.ch HCM.out (by simpa using hsbkm)).cells 3))
    ((go_at_call 105; refine (newKey_any sb name val _).mono ?_; rintro e w' ⟨rfl, rfl⟩))
  apply ‹∀ (a : Act) (w : World), Code.wp _ _ _ a w → _›
  refine wp_gen (fun V => Hid (Blk V sb 96 (secCells fb es sname km (.slice (some ⟨g1, 0, none⟩) ((strs (l.map (·.1))).length + 1) cap1) kh)) ∧
      Hid (Row V 9 (.slice (some ⟨g1, 0, none⟩) ((strs (l.map (·.1))).length + 1) cap1) (strs (l.map (·.1)) ++ [.string name])) ∧
      Hid (MapAt V km (l ++ [(name, .pointer (some ⟨W.heap.size, 0, none⟩))])) ∧ Hid (MapAt V kh lh) ∧ Hid (Blk V W.heap.size 107 (keyCells sb es name val false false (.slice none 0 0))) ∧ Hid (Ch (km :: sb :: klv.ownBlock.toList) w V)) ?_ ?_
  · refine ⟨HB2.out.ch HCM.out (by simpa using hsbkm), HR2.out.ch HCM.out (fun g hg => by simp; exact HM2.out.neRow HR2.out hg), ?_, HH2.out.ch HCM.out (by simpa using fun e => HNE.out e.symm), ?_, ?_⟩
    · have := HM3.out.put name (.pointer (some ⟨W.heap.size, 0, none⟩))
      rw [putL_none HNO.out] at this
      exact this
    · have h1 := Blk.new W.drew 107 (keyCells sb es name val false false (.slice none 0 0))
      exact h1.ch (Ch.put (Ch.refl [km] _) (.inl (by simp)) _ _) (by simp; omega)
    · exact (HC2.out.mono (fun x hx => .inl (List.mem_cons_of_mem _ hx))).trans HCM.out (by simp)
  rintro V ⟨HB4, HR4, HM4, HH4, HK4, HC4⟩
  clear hc hmu hmu2 HB3 HM3 HCM HB2 HR2 HM2 HH2 hsbkm
  have hc := HB4.out.cells
  simp only [secCells] at hc
  have hmu : (Instr.mapUpdate 94 (.map (some kh)) (.string name) (.string val)).run Tryz.prog V = .ok () (putW V kh name (.string val)) := run_put (P := Tryz.prog) (T := 94) (K := 9) (E := 9) rfl rfl HH4.out name _
  have HCV : Hid (Ch [kh] V (putW V kh name (.string val))) := Ch.put (Ch.refl [kh] V) (.inl (by simp)) _ _
  have HB5 := Lib.hid (HB4.out.ch HCV.out (by simpa using fun e => HH4.out.ne HB4.out e.symm))
  have HM5 := Lib.hid (HM4.out.ch HCV.out (by simpa using HNE.out))
  have hc2 := HB5.out.cells
  simp only [secCells] at hc2
  have hlk : (Instr.lookup 93 (.map (some km)) (.string name) false).run Tryz.prog (putW V kh name (.string val)) = .ok (.pointer (some ⟨W.heap.size, 0, none⟩)) (putW V kh name (.string val)) :=
    run_look (T := 93) (K := 9) (E := 70) rfl rfl HM5.out name (lookL_append HNO.out)
  go_wp2
  refine bodyPost_ret (results_tmp2 rfl _ _ _) rfl ?_
  have hR5 := HR4.out.ch HCV.out (fun g hg => by simp; exact HH4.out.neRow HR4.out hg)
  refine ⟨W.heap.size, rfl, g1, cap1, ?_⟩
  exact {
    sec := HB5.out
    hkm := HM5.out
    hkh := ⟨_, HH4.out.put name (.string val)⟩
    hkl := hR5
    own := hown
    key := HK4.out.ch HCV.out (by simp; exact fun e => HH4.out.ne HK4.out e.symm)
    nkb := hsz
    ch := (HC4.out.mono (fun x hx => .inl (by simp at hx ⊢; rcases hx with h | h | h <;> simp [h]))).trans HCV.out (by simp) }
end Go.Proofs.YtfnncdngfggcjaaGreatDoor
