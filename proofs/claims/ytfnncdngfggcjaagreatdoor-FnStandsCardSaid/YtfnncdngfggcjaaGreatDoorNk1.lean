/- Contracts of NewKey at a key that is there: its value is set anew, or a shadow is added. -/
import Derived.Test.YtfnncdngfggcjaaGreatDoorPar2
import Derived.StillTailTactics
namespace Go.Proofs.YtfnncdngfggcjaaGreatDoor
open Go.RowKit

theorem inf70 : (Tryz.prog.info? 70).map (fun i => (i.zero, i.size, i.bytes)) = some (some (.pointer none), 1, 8) := by kernel_rfl
theorem newKey_abs (sb : Nat) (name val : ByteArray) (W : World) :
    Calls Tryz.prog 105 #[.pointer (some ⟨sb, 0, none⟩), .string name, .string val] W fun e w' => ∃ xb, e = .returned (.pointer (some ⟨xb, 0, none⟩)) ∧ W.heap.size ≤ xb ∧ Hid (Blk w' xb 107 (keyCells sb es name val false false (.slice none 0 0))) ∧ Hid (Ch [] W w') := by
  refine (newKey_any sb name val W).mono ?_
  rintro e w' ⟨rfl, rfl⟩
  exact ⟨_, rfl, Nat.le_refl _, Blk.new W 107 _, (Ch.refl [] W).alloc _⟩

set_option maxRecDepth 100000 in
set_option maxHeartbeats 4000000 in
theorem addShadow_one (kb sb fb : Nat) (name v0 val sname : ByteArray) (sh : Bool) (km kh mb : Nat) (klv dsv slv siv : Value) (w : World) (hk : Blk w kb 107 (keyCells sb es name v0 false false (.slice none 0 0))) (hs : Blk w sb 96 (secCells fb es sname km klv kh))
    (hf : Blk w fb 102 (fileCells sh dsv slv siv mb)) (hne : v0 ≠ val) :
    Calls Tryz.prog 104 #[.pointer (some ⟨kb, 0, none⟩), .string val] w fun e w' => ∃ xb g cap, e = .returned .nilIface ∧ Hid (Blk w' kb 107 (keyCells sb es name v0 false false (.slice (some ⟨g, 0, none⟩) 1 cap))) ∧
      Hid (Blk w' xb 107 (keyCells sb es name val false true (.slice none 0 0))) ∧ Hid (Row w' 70 (.slice (some ⟨g, 0, none⟩) 1 cap) [ptr xb]) ∧ Hid (w.heap.size ≤ xb) ∧ Hid (Ch [kb] w w') := by
  have hck := hk.cells
  have hcs := hs.cells
  have hcf := hf.cells
  simp only [keyCells] at hck
  simp only [secCells] at hcs
  simp only [fileCells] at hcf
  have hq : (v0.toList == val.toList) = false := beq_eq_false_iff_ne.2 (fun e => hne (by rw [ba_of_list e, ← ba_of_list (rfl : val.toList = val.toList)]))
  have HK := Lib.hid hk
  have hkl := hk.lt
  clear hk hs hf hne
  go_enter Tryz.func104, Tryz.ntmps104
  go_wp2
  refine wp_loop_rounds 1 ?_
  rw [rounds_succ]
  go_wp2
  go_still_tail 9, (by kernel_rfl)
  change wpList _ _ _ _ _ w.drew
  go_wp2_with (first
    | (go_at_call 105; refine (newKey_abs sb name val _).mono ?_
       rintro e V ⟨xb, rfl, hxb, HX, HCX⟩
       simp only [World.size_drew] at hxb
       have hnx1 : ¬ kb = xb := by omega
       have hnx3 : (kb == xb) = false := beq_eq_false_iff_ne.2 hnx1
       have hfx2 := HX.out.frees
       have HV : Hid (Ch [] w V) := (Ch.refl [] w).drew.trans HCX.out (by simp)
       have hcA : ∀ o, (V.setCell ⟨xb, 6, none⟩ (.bool true)).cell? ⟨kb, o, none⟩ = (keyCells sb es name v0 false false (.slice none 0 0))[o]? := ((HK.out.drew.ch HCX.out (by simp)).setCell hnx1 _).cells
       have hcB : ∀ o, V.cell? ⟨kb, o, none⟩ = (keyCells sb es name v0 false false (.slice none 0 0))[o]? := (HK.out.drew.ch HCX.out (by simp)).cells
       have hcx2 := HX.out.cells
       simp only [keyCells] at hcA hcB hcx2
       have HBK : Hid (Blk (V.setCell ⟨xb, 6, none⟩ (.bool true)) kb 107 (keyCells sb es name v0 false false (.slice none 0 0))) := (HK.out.drew.ch HCX.out (by simp)).setCell hnx1 _
       have HBX : Hid (Blk (V.setCell ⟨xb, 6, none⟩ (.bool true)) xb 107 (keyCells sb es name val false true (.slice none 0 0))) := HX.out.set 6 (.bool true)
       have HCV : Hid (Ch [] w (V.setCell ⟨xb, 6, none⟩ (.bool true))) := HV.out.set (.inr hxb) _
       have HUC : Hid (((V.setCell ⟨xb, 6, none⟩ (.bool true)).alloc (.cells #[.pointer (some ⟨xb, 0, none⟩)] 70)).cell? ⟨V.heap.size, 0, none⟩ = some (.pointer (some ⟨xb, 0, none⟩))) := (Blk.newM (V.setCell ⟨xb, 6, none⟩ (.bool true)) 70 [.pointer (some ⟨xb, 0, none⟩)] V.heap.size (by rw [World.size_setCell])).cells 0
       clear hck hcs hcf)
    | (at_builtin; go_loud (refine wpList_append_row rfl (.tmp 79) (.tmp 81) 105 rfl 70 (.pointer none) 8 Tryz.underlying105 inf70 rfl (.slice none 0 0) [] rfl (Row.nil _ _) ⟨V.heap.size, 0, none⟩ 1 (.pointer (some ⟨xb, 0, none⟩)) rfl HUC.out rfl (by decide) (by omega) ?_)))
  intro g cap U h1 h2 h3 h4
  have hch : Ch [] (V.setCell ⟨xb, 6, none⟩ (.bool true)) U := ((Ch.refl [] _).alloc _).trans h2 (by simp [Value.ownBlock])
  have HK3 := Lib.hid (HBK.out.ch hch (by simp))
  have HX3 := Lib.hid (HBX.out.ch hch (by simp))
  have HC3 : Hid (Ch [] w U) := HCV.out.trans hch (by simp)
  have hcu := HK3.out.cells
  have hfu := HK3.out.frees
  simp only [keyCells] at hcu
  have HR3 := Lib.hid h1
  clear h1 h2 h3 h4 hch hcA hcB hcx2 hfx2
  go_wp2
  go_ret
  have c : Ch [kb] U (U.setCell ⟨kb, 7, none⟩ (.slice (some ⟨g, 0, none⟩) 1 cap)) := (Ch.refl [kb] U).set (by simp) _
  refine ⟨xb, g, cap, rfl, HK3.out.set 7 _, HX3.out.ch c (by simpa using fun e => hnx1 e.symm), HR3.out.ch c (fun g' hg' hm => ?_), hxb, (HC3.out.mono (by simp)).trans c (by simp)⟩
  rw [List.mem_singleton] at hm
  exact HR3.out.ne HK3.out (by decide) g' hg' hm

set_option maxRecDepth 100000 in
set_option maxHeartbeats 4000000 in
/-- The key is there: its value is set anew. -/
theorem newKey_set (B : Nat) (own : Nat → Nat) (fb mb : Nat) (σ : List SecA) (dsv slv siv : Value) (i : Nat) (s : SecA) (j : Nat) (k : KeyA) (val : ByteArray) (w : World) (hF : FileOK B own w fb false σ dsv slv siv mb) (hi : σ[i]? = some s)
    (hj : s.keys[j]? = some k) (hn : 0 < k.name.size) (hlen : s.keys.length ≤ 1000) :
    Calls Tryz.prog 79 #[ptr s.sb, .string k.name, .string val] w fun e w' => e = .returned (.tuple #[ptr k.kb, .nilIface]) ∧ putW (w.setCell ⟨k.kb, 3, none⟩ (.string val)) s.kh k.name (.string val) = w' := by
  have hsec := hF.secs i s hi
  have hk := hsec.keys k (List.mem_of_getElem? hj)
  obtain ⟨lh, hkh⟩ := hsec.kh
  have hnk : s.sb ≠ k.kb := hsec.sec.ne hk.key (by decide)
  have hnh : s.sb ≠ s.kh := fun e => hkh.ne hsec.sec e.symm
  have hMU : MapAt (w.setCell ⟨k.kb, 3, none⟩ (.string val)) s.kh lh := hkh.setCell (hkh.ne hk.key) _
  have hSB : Blk (w.setCell ⟨k.kb, 3, none⟩ (.string val)) s.sb 96 (secCells fb es s.name s.km s.klv s.kh) := hsec.sec.setCell hnk _
  have hSB2 : Blk (putW (w.setCell ⟨k.kb, 3, none⟩ (.string val)) s.kh k.name (.string val)) s.sb 96 (secCells fb es s.name s.km s.klv s.kh) := hSB.ch (Ch.put (Ch.refl [s.kh] _) (.inl (by simp)) _ _) (by simpa using hnh)
  have hKM2 : MapAt (putW (w.setCell ⟨k.kb, 3, none⟩ (.string val)) s.kh k.name (.string val)) s.km (s.keys.map fun k => (k.name, ptr k.kb)) :=
    (hsec.km.setCell (hsec.km.ne hk.key) _).ch (Ch.put (Ch.refl [s.kh] _) (.inl (by simp)) _ _) (by simpa using hsec.ne)
  have hmu : (Instr.mapUpdate 94 (.map (some s.kh)) (.string k.name) (.string val)).run Tryz.prog (w.setCell ⟨k.kb, 3, none⟩ (.string val)) = .ok () (putW (w.setCell ⟨k.kb, 3, none⟩ (.string val)) s.kh k.name (.string val)) :=
    run_put (P := Tryz.prog) (T := 94) (K := 9) (E := 9) rfl rfl hMU k.name _
  have hlk := hsec.look hj
  have hlk2 : (Instr.lookup 93 (.map (some s.km)) (.string k.name) false).run Tryz.prog (putW (w.setCell ⟨k.kb, 3, none⟩ (.string val)) s.kh k.name (.string val)) = .ok (ptr k.kb) (putW (w.setCell ⟨k.kb, 3, none⟩ (.string val)) s.kh k.name (.string val)) :=
    run_look (T := 93) (K := 9) (E := 70) rfl rfl hKM2 k.name (lookL_get (i := j) (by rw [List.map_map]; exact hsec.nodup) (by rw [List.getElem?_map, hj]; rfl))
  have hcf := hF.file.cells
  have hcs := hsec.sec.cells
  have hcs1 := hSB.cells
  have hcs2 := hSB2.cells
  have hck := hk.key.cells
  have hfk := hk.key.frees
  simp only [fileCells] at hcf
  simp only [secCells] at hcs hcs1 hcs2
  simp only [keyCells] at hck
  have hn0 : ((k.name.size : Int) == 0) = false := beq_eq_false_iff_ne.2 (by omega)
  have hmem : k.name ∈ s.keys.map (·.name) := List.mem_map.2 ⟨k, List.mem_of_getElem? hj, rfl⟩
  have HM := Lib.hid hmem
  have HKL := Lib.hid hsec.kl
  have hb1 : (s.sb == k.kb) = false := beq_eq_false_iff_ne.2 hnk
  clear hF hi hj hsec hk hkh hMU hSB hSB2 hKM2 hmem hnh
  unfold ptr at *
  go_enter Tryz.func79, Tryz.ntmps79
  go_wp2_with (go_at_call 102; refine (inSlice_any k.name s.klv _ true (by simp only [true_iff]; exact HM.out) _ HKL.out (by simp only [List.length_map]; omega)).mono ?_; rintro e w' ⟨rfl, rfl⟩)
  refine bodyPost_ret (results_tmp2 rfl _ _ _) rfl ?_
  exact ⟨rfl, rfl⟩

set_option maxRecDepth 100000 in
set_option maxHeartbeats 4000000 in
/-- The key is there: a shadow is added. -/
theorem newKey_shadow (B : Nat) (own : Nat → Nat) (fb mb : Nat) (σ : List SecA) (dsv slv siv : Value) (i : Nat) (s : SecA) (j : Nat) (k : KeyA) (val : ByteArray) (w : World) (hF : FileOK B own w fb true σ dsv slv siv mb) (hi : σ[i]? = some s)
    (hj : s.keys[j]? = some k) (hn : 0 < k.name.size) (hlen : s.keys.length ≤ 1000) (hau : k.auto = false) (hsh : k.shs = []) (hne : k.val ≠ val) :
    Calls Tryz.prog 79 #[ptr s.sb, .string k.name, .string val] w fun e w' => ∃ xb g cap, e = .returned (.tuple #[ptr k.kb, .nilIface]) ∧ Hid (Blk w' k.kb 107 (keyCells s.sb es k.name k.val false false (.slice (some ⟨g, 0, none⟩) 1 cap))) ∧
      Hid (Blk w' xb 107 (keyCells s.sb es k.name val false true (.slice none 0 0))) ∧ Hid (Row w' 70 (.slice (some ⟨g, 0, none⟩) 1 cap) [ptr xb]) ∧ Hid (w.heap.size ≤ xb) ∧ Hid (Ch [k.kb] w w') := by
  have hsec := hF.secs i s hi
  have hk := hsec.keys k (List.mem_of_getElem? hj)
  have hkey := hk.key
  rw [hau, hk.nsh hsh] at hkey
  have HA := Lib.hid (addShadow_one k.kb s.sb fb k.name k.val val s.name true s.km s.kh mb s.klv dsv slv siv w hkey hsec.sec hF.file hne)
  have hnk : s.sb ≠ k.kb := hsec.sec.ne hk.key (by decide)
  have hlk := hsec.look hj
  have HKM := Lib.hid hsec.km
  have HSB := Lib.hid hsec.sec
  have HLK : Hid (∀ W, MapAt W s.km (s.keys.map fun k => (k.name, ptr k.kb)) → (Instr.lookup 93 (.map (some s.km)) (.string k.name) false).run Tryz.prog W = .ok (ptr k.kb) W) := fun W hW =>
    run_look (T := 93) (K := 9) (E := 70) rfl rfl hW k.name (lookL_get (i := j) (by rw [List.map_map]; exact hsec.nodup) (by rw [List.getElem?_map, hj]; rfl))
  have hcf := hF.file.cells
  have hcs := hsec.sec.cells
  simp only [fileCells] at hcf
  simp only [secCells] at hcs
  have hn0 : ((k.name.size : Int) == 0) = false := beq_eq_false_iff_ne.2 (by omega)
  have hmem : k.name ∈ s.keys.map (·.name) := List.mem_map.2 ⟨k, List.mem_of_getElem? hj, rfl⟩
  have HM := Lib.hid hmem
  have HKL := Lib.hid hsec.kl
  have HNK := Lib.hid hnk
  have HKNE := Lib.hid (hsec.km.ne hk.key)
  clear hF hi hj hsec hk hmem hkey hau hsh hne hnk
  unfold ptr at *
  go_enter Tryz.func79, Tryz.ntmps79
  go_wp2_with (first
    | (go_at_call 102; refine (inSlice_any k.name s.klv _ true (by simp only [true_iff]; exact HM.out) _ HKL.out (by simp only [List.length_map]; omega)).mono ?_; rintro e w' ⟨rfl, rfl⟩)
    | (go_at_call 104; refine HA.out.mono ?_
       rintro e V ⟨xb, g, cap, rfl, HK1, HX1, HR1, HXB, HCX⟩
       have hlk2 := HLK.out V (HKM.out.ch HCX.out (by simpa using HKNE.out))
       have hcs2 := (HSB.out.ch HCX.out (by simpa using HNK.out)).cells
       simp only [secCells] at hcs2
       unfold ptr at hlk2
       clear hlk hcs hcf))
  refine bodyPost_ret (results_tmp2 rfl _ _ _) rfl ?_
  exact ⟨xb, g, cap, rfl, HK1, HX1, HR1, HXB, HCX⟩
end Go.Proofs.YtfnncdngfggcjaaGreatDoor
