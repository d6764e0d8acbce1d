/- Contract of File.NewSection where there is no section of that name. -/
import Derived.Test.YtfnncdngfggcjaaGreatDoorMaps
import Derived.Deep.RegionHeld3
import Derived.Deep.RegionLaw
import Derived.BigRegion
import Derived.Deep.QuietTactic
import Derived.BigQuiet
namespace Go.Proofs.YtfnncdngfggcjaaGreatDoor
open Go.RowKit

theorem info9 : (Tryz.prog.info? 9).map (fun i => (i.zero, i.size, i.bytes)) = some (some (.string ⟨#[]⟩), 1, 16) := by kernel_rfl
theorem info3 : (Tryz.prog.info? 3).map (fun i => (i.zero, i.size, i.bytes)) = some (some (.int .i64 0), 1, 8) := by kernel_rfl
theorem info62 : (Tryz.prog.info? 62).map (fun i => (i.zero, i.size, i.bytes)) = some (some (.pointer none), 1, 8) := by kernel_rfl

theorem zero74 (w : World) : (zeroValue 74).run Tryz.prog w = .ok (.slice none 0 0) w := by kernel_rfl

set_option maxRecDepth 100000 in
set_option maxHeartbeats 2000000 in
/-- What NewSection has done where there was no section of the name. -/
structure NewSec (w w' : World) (fb mb : Nat) (sh : Bool) (σ : List SecA) (dsv slv siv : Value) (name : ByteArray) (sb km kl kh gb cap g1 cap1 g2 cap2 n : Nat) : Prop where
  file : Blk w' fb 102 (fileCells sh dsv (.slice (some ⟨g1, 0, none⟩) ((strs (List.map (fun x => x.name) σ)).length + 1) cap1) (.slice (some ⟨g2, 0, none⟩) ((σ.map fun _ => Value.int .i64 0).length + 1) cap2) mb)
  sl : Row w' 9 (.slice (some ⟨g1, 0, none⟩) ((strs (List.map (fun x => x.name) σ)).length + 1) cap1) (strs (σ.map (·.name)) ++ [.string name])
  si : Row w' 3 (.slice (some ⟨g2, 0, none⟩) ((σ.map fun _ => Value.int .i64 0).length + 1) cap2) ((σ.map fun _ => .int .i64 0) ++ [.int .i64 0])
  mp : MapAt w' mb ((σ.map fun s => (s.name, .slice (some ⟨s.gb, 0, none⟩) 1 s.gcap)) ++ [(name, .slice (some ⟨gb, 0, none⟩) 1 cap)])
  grp : Row w' 62 (.slice (some ⟨gb, 0, none⟩) 1 cap) [ptr sb]
  sec : Blk w' sb 96 (secCells fb es name km (.slice (some ⟨kl, 0, none⟩) 0 10) kh)
  hkm : MapAt w' km []
  hkh : MapAt w' kh []
  hkl : Row w' 9 (.slice (some ⟨kl, 0, none⟩) 0 10) []
  ne : km ≠ kh
  n0 : w.heap.size ≤ n
  lt1 : g1 < n
  lt2 : g2 < n
  own1 : slv.ownBlock = some g1 ∨ w.heap.size ≤ g1
  own2 : siv.ownBlock = some g2 ∨ w.heap.size ≤ g2
  nsb : n ≤ sb
  nkm : n ≤ km
  nkl : n ≤ kl
  nkh : n ≤ kh
  ngb : n ≤ gb
  ch : Ch (mb :: fb :: (slv.ownBlock.toList ++ siv.ownBlock.toList)) w w'

theorem MapAt.neRow {w : World} {b : Nat} {l : List (ByteArray × Value)} (h : MapAt w b l) {T : TypeId} {v : Value} {xs : List Value} (hr : Row w T v xs) {g : Nat} (hg : v.ownBlock = some g) : g ≠ b := by
  obtain ⟨c2, k2, _, b2, _⟩ := hr.blk hg
  exact fun e => h.ne b2 e.symm
set_option maxRecDepth 100000 in
set_option maxHeartbeats 4000000 in
theorem newSection_new (fb mb : Nat) (B : Nat) (own : Nat → Nat) (sh : Bool) (σ : List SecA) (dsv slv siv : Value) (name : ByteArray) (w : World) (hF : FileOK B own w fb sh σ dsv slv siv mb) (hn : 0 < name.size)
    (hno : name ∉ σ.map (·.name)) (hlen : σ.length ≤ 100) :
    Calls Tryz.prog 78 #[ptr fb, .string name] w fun e w' => ∃ sb km kl kh gb cap g1 cap1 g2 cap2 n, e = .returned (.tuple #[ptr sb, .nilIface]) ∧ NewSec w w' fb mb sh σ dsv slv siv name sb km kl kh gb cap g1 cap1 g2 cap2 n := by
  have hc := hF.file.cells
  have hf := hF.file.frees
  simp only [fileCells] at hc
  have HF := Lib.hid hF
  have hn0 : ((name.size : Int) == 0) = false := beq_eq_false_iff_ne.2 (by omega)
  have hlt := hF.file.lt
  clear hF
  unfold ptr
  go_enter Tryz.func78, Tryz.ntmps78
  go_wp2_with (first
    | (go_at_call 102; refine (inSlice_any name slv _ false (by simp [hno]) _ HF.out.sl (by simp; omega)).mono ?_; rintro e w' ⟨rfl, rfl⟩)
    | (at_builtin; refine wpList_append_row rfl (.tmp 55) (.tmp 57) 26 rfl 9 _ 16 Tryz.underlying26 info9 rfl slv _ rfl (HF.out.sl.alloc _) ⟨w.heap.size, 0, none⟩ 1 (.string name) rfl (by simp) rfl ?_ (by omega) ?_))
  · simp only [strs, List.length_map]; omega
  intro g1 cap1 w1 hr1 hch1 hg1 hg1l
  have hB1 := (HF.out.file.alloc (.cells #[.string name] 9)).ch hch1 (fun hm => HF.out.sl.ne HF.out.file (by decide) _ (by simpa using hm) rfl)
  have hc1 := hB1.cells
  have hf1 := hB1.frees
  simp only [fileCells] at hc1
  have HB1 := Lib.hid hB1
  have HR1 := Lib.hid hr1
  have HC1 := Lib.hid hch1
  clear hB1 hr1 hch1 hc hf
  go_wp2
  have hfg : ∀ g, slv.ownBlock = some g → g ≠ fb := fun g hg => HF.out.sl.ne HF.out.file (by decide) g hg
  have hsg : ∀ g, siv.ownBlock = some g → g ≠ fb := fun g hg => HF.out.si.ne HF.out.file (by decide) g hg
  have hg1fb : g1 ≠ fb := by
    rcases hg1 with h | h
    · exact hfg _ h
    · rw [h]; simp; omega
  have HS1 : Hid (∀ g, siv.ownBlock = some g → g ∉ slv.ownBlock.toList) := fun g hg hm => by
    obtain ⟨c1, k1, _, b1, _⟩ := HF.out.si.blk hg
    obtain ⟨c2, k2, _, b2, _⟩ := HF.out.sl.blk (g := g) (by simpa using hm)
    exact b1.ne b2 (by decide) rfl
  have HM1 : Hid (mb ∉ slv.ownBlock.toList) := fun hm => by
    obtain ⟨c2, k2, _, b2, _⟩ := HF.out.sl.blk (g := mb) (by simpa using hm)
    exact HF.out.mp.ne b2 rfl
  refine wp_gen (fun W => Hid (Blk W fb 102 (fileCells sh dsv (.slice (some ⟨g1, 0, none⟩) ((strs (List.map (fun x => x.name) σ)).length + 1) cap1) siv mb)) ∧
      Hid (Row W 9 (.slice (some ⟨g1, 0, none⟩) ((strs (List.map (fun x => x.name) σ)).length + 1) cap1) (strs (σ.map (·.name)) ++ [.string name])) ∧
      Hid (Row W 3 siv (σ.map fun _ => .int .i64 0)) ∧ Hid (MapAt W mb (σ.map fun s => (s.name, .slice (some ⟨s.gb, 0, none⟩) 1 s.gcap))) ∧
      Hid (Ch (fb :: slv.ownBlock.toList) w W) ∧ Hid (g1 < W.heap.size)) ?_ ?_
  · refine ⟨HB1.out.set 25 _, HR1.out.setCell (fun g hg => ?_) _, ((HF.out.si.alloc _).ch HC1.out HS1.out).setCell (fun g hg => hsg g hg) _, ((HF.out.mp.alloc _).ch HC1.out HM1.out).setCell (HF.out.mp.ne HF.out.file) _, ?_, ?_⟩
    · cases hg; exact hg1fb
    · exact Ch.set (Ch.trans (Ch.alloc (Ch.refl _ _) _) HC1.out (fun x hx => .inl (List.mem_cons_of_mem _ hx))) (.inl (by simp)) _
    · show _ < (World.setCell _ _ _).heap.size
      rw [World.size_setCell]; exact hg1l
  rintro W ⟨HB2, HR2, HS2, HM2, HC2, HG2⟩
  clear HB1 HR1 HC1 hc1 hf1 HS1 HM1 hg1l
  have hc := HB2.out.cells
  have hf := HB2.out.frees
  have hsz := HC2.out.size
  simp only [fileCells] at hc
  have hlk : ∀ V : World, V.heap = W.heap → (Instr.lookup 99 (.map (some mb)) (.string name) false).run Tryz.prog V = .ok (.slice none 0 0) V := fun V hV =>
    run_look_none (T := 99) (K := 9) (E := 74) rfl rfl (HM2.out.same (by rw [hV])) name zero74 (lookL_none (by rw [List.map_map]; exact hno))
  have hlk1 := hlk W.drew rfl
  have hlk0 := hlk W rfl
  have HNO := Lib.hid hno
  clear hno hlk
  have hsA : (W.drew.alloc (.cells #[.int .i64 0] 3)).cell? ⟨fb, 26, none⟩ = some siv := (HB2.out.drew.alloc _).cells 26
  have hltW := HB2.out.lt
  have hneW : (fb == W.heap.size) = false := beq_eq_false_iff_ne.2 (by omega)
  have hneW2 : ¬ fb = W.heap.size := by omega
  have hsA2 : (W.alloc (.cells #[.int .i64 0] 3)).cell? ⟨fb, 26, none⟩ = some siv := (HB2.out.alloc _).cells 26
  go_region_law
    ((refine step_append_row rfl (.tmp 65) (.tmp 73) 98 rfl 3 _ 8 Tryz.underlying98 info3 rfl siv _ rfl (HS2.out.drew.alloc _) ⟨W.heap.size, 0, none⟩ 1 (.int .i64 0) rfl (by simp) rfl (by simp; omega) (by omega) ?_; intro g2 cap2 w2 h1 h2 h3 h4;
      have hB3 := (HB2.out.drew.alloc (.cells #[.int .i64 0] 3)).ch h2 (fun hm => by simp at hm; exact hsg _ hm rfl); have hf3 := hB3.frees; have hc3 : w2.cell? ⟨fb, 26, none⟩ = some siv := hB3.cells 26; have HB3 := Lib.hid hB3; clear hB3))
  all_goals
    have hg2fb : g2 ≠ fb := by
      rcases h3 with h | h
      · exact hsg _ h
      · rw [h]; simp; omega
    have hown2 : siv.ownBlock = some g2 ∨ w.heap.size ≤ g2 := by
      rcases h3 with h | h
      · exact .inl h
      · right; rw [h]; simp; omega
    have hown1 : slv.ownBlock = some g1 ∨ w.heap.size ≤ g1 := by
      rcases hg1 with h | h
      · exact .inl h
      · right; rw [h]; simp
    apply ‹∀ (a : Act) (w : World), Code.wp _ _ _ a w → _›
    refine wp_gen (fun V => Hid (Blk V fb 102 (fileCells sh dsv (.slice (some ⟨g1, 0, none⟩) ((strs (List.map (fun x => x.name) σ)).length + 1) cap1) (.slice (some ⟨g2, 0, none⟩) ((σ.map fun _ => Value.int .i64 0).length + 1) cap2) mb)) ∧
      Hid (Row V 9 (.slice (some ⟨g1, 0, none⟩) ((strs (List.map (fun x => x.name) σ)).length + 1) cap1) (strs (σ.map (·.name)) ++ [.string name])) ∧
      Hid (Row V 3 (.slice (some ⟨g2, 0, none⟩) ((σ.map fun _ => Value.int .i64 0).length + 1) cap2) ((σ.map fun _ => .int .i64 0) ++ [.int .i64 0])) ∧ Hid (MapAt V mb (σ.map fun s => (s.name, .slice (some ⟨s.gb, 0, none⟩) 1 s.gcap))) ∧
      Hid (Ch (fb :: (slv.ownBlock.toList ++ siv.ownBlock.toList)) w V) ∧ Hid (g1 < V.heap.size) ∧ Hid (g2 < V.heap.size)) ?_ ?_
    · have hmS : mb ∉ siv.ownBlock.toList := fun hm => by
        obtain ⟨c2, k2, _, b2, _⟩ := HF.out.si.blk (g := mb) (by simpa using hm)
        exact HF.out.mp.ne b2 rfl
      have hg1S : ∀ g, (Value.slice (some ⟨g1, 0, none⟩) ((strs (List.map (fun x => x.name) σ)).length + 1) cap1).ownBlock = some g → g ∉ siv.ownBlock.toList := fun g hg hm => by
        obtain ⟨c1, k1, _, b1, _⟩ := HS2.out.blk (g := g) (by simpa using hm)
        obtain ⟨c2, k2, _, b2, _⟩ := HR2.out.blk hg
        exact b1.ne b2 (by decide) rfl
      have hsz2 := h2.size
      simp only [World.size_alloc, World.size_drew] at hsz2
      have hB4 := HB3.out.set 26 (.slice (some ⟨g2, 0, none⟩) ((σ.map fun _ => Value.int .i64 0).length + 1) cap2)
      simp only [List.length_map] at hB4 h1 ⊢
      refine ⟨hB4, ((HR2.out.drew.alloc _).ch h2 hg1S).setCell (fun g hg => ?_) _, h1.setCell (fun g hg => ?_) _, ((HM2.out.drew.alloc _).ch h2 hmS).setCell (HF.out.mp.ne HF.out.file) _, ?_, ?_, ?_⟩
      · cases hg; exact hg1fb
      · cases hg; exact hg2fb
      · exact Ch.set (Ch.trans (Ch.alloc (Ch.drew (Ch.mono HC2.out (fun x hx => .inl (by simp at hx ⊢; rcases hx with h | h <;> simp [h])))) _) h2 (fun x hx => .inl (by simp at hx ⊢; simp [hx]))) (.inl (by simp)) _
      · show _ < (World.setCell _ _ _).heap.size
        rw [World.size_setCell]; have := HG2.out; omega
      · show _ < (World.setCell _ _ _).heap.size
        rw [World.size_setCell]; exact h4
    rintro V ⟨HB5, HR5, HS5, HM5, HC5, HG5, HG6⟩
    clear HB3 hc3 hf3 hc hf hlk0 hlk1 hsA HB2 HR2 HS2 HM2 HC2 HG2 h1 h2 h4
    have hc := HB5.out.cells
    have hf := HB5.out.frees
    simp only [fileCells] at hc
    have hno' := HNO.out
    go_wp2_with (go_at_call 103; refine (newSection_any fb name _).mono ?_; rintro e V1 ⟨sb, km, kl, kh, rfl, hsb, hkm, hkl, hkh, hkk, hsec, hmk, hmh, hrk, hch⟩)
    have HSEC := Lib.hid hsec
    have HMK := Lib.hid hmk
    have HMH := Lib.hid hmh
    have HRK := Lib.hid hrk
    have HCH := Lib.hid hch
    have HB6 := Lib.hid (HB5.out.ch hch (by simp))
    have HM6 := Lib.hid (HM5.out.ch hch (by simp))
    clear hsec hmk hmh hrk hch hc hf
    have hc := HB6.out.cells
    have hf := HB6.out.frees
    simp only [fileCells] at hc
    have hlt6 := HB6.out.lt
    have hlkA : (Instr.lookup 99 (.map (some mb)) (.string name) false).run Tryz.prog V1.drew = .ok (.slice none 0 0) V1.drew :=
      run_look_none (T := 99) (K := 9) (E := 74) rfl rfl HM6.out.drew name zero74 (lookL_none (by rw [List.map_map]; exact hno'))
    have hlkB : ∀ u, (Instr.lookup 99 (.map (some mb)) (.string name) false).run Tryz.prog (V1.drew.alloc u) = .ok (.slice none 0 0) (V1.drew.alloc u) := fun u =>
      run_look_none (T := 99) (K := 9) (E := 74) rfl rfl (HM6.out.drew.alloc u) name zero74 (lookL_none (by rw [List.map_map]; exact hno'))
    have hlkC : ∀ u, (Instr.lookup 99 (.map (some mb)) (.string name) false).run Tryz.prog (V1.alloc u).drew = .ok (.slice none 0 0) (V1.alloc u).drew := hlkB
    clear hno'
    go_region_held3 (fun w' => w'.cell? ⟨fb, 27, none⟩ = some (.map (some mb)))
      (first
        | exact (HB6.out.drew.cells 27)
        | exact ((HB6.out.drew.alloc _).cells 27)
        | exact (((HB6.out.drew.alloc _).ch h2 (by simp)).cells 27)
        | exact ((HB7.out.ch (Ch.put (Ch.refl [mb] _) (.inl (by simp)) _ _) (by simp; exact fun e => HM6.out.ne HB6.out e.symm)).cells 27))
      ((refine step_append_row rfl (.tmp 90) (.tmp 92) 74 rfl 62 (.pointer none) 8 Tryz.underlying74 info62 rfl (.slice none 0 0) [] rfl (Row.nil _ _) ⟨V1.heap.size, 0, none⟩ 1 (.pointer (some ⟨sb, 0, none⟩)) rfl (by simp) rfl (by simp) (by omega) ?_; intro g3 cap3 w5 h1 h2 h3 h4;
        replace h2 : Ch [] (V1.drew.alloc (.cells #[.pointer (some ⟨sb, 0, none⟩)] 62)) w5 := h2;
        have HB7 := Lib.hid ((HB6.out.drew.alloc (.cells #[.pointer (some ⟨sb, 0, none⟩)] 62)).ch h2 (by simp));
        have HM7 := Lib.hid ((HM6.out.drew.alloc (.cells #[.pointer (some ⟨sb, 0, none⟩)] 62)).ch h2 (by simp));
        have hmu := fun v => run_put (P := Tryz.prog) (T := 99) (K := 9) (E := 74) rfl rfl HM7.out name v))
    all_goals
      apply ‹∀ (a : Act) (w : World), Code.wp _ _ _ a w → _›
      have hHC8 : Ch [mb] V1 (putW w5 mb name (.slice (some ⟨g3, 0, none⟩) 1 cap3)) := Ch.put (Ch.trans (Ch.alloc (Ch.drew (Ch.refl [mb] V1)) _) h2 (by simp)) (.inl (by simp)) _ _
      have HC8 := Lib.hid hHC8
      have HC9 : Hid (Ch [mb] V (putW w5 mb name (.slice (some ⟨g3, 0, none⟩) 1 cap3))) := (HCH.out.mono (by simp)).trans hHC8 (by simp)
      have HHM7 := Lib.hid (HM7.out.put name (.slice (some ⟨g3, 0, none⟩) 1 cap3))
      have hmlt := HM5.out.lt
      have hvv := HCH.out.size
      clear hHC8
      refine wp_gen (fun Z => Hid (Z = putW w5 mb name (.slice (some ⟨g3, 0, none⟩) 1 cap3))) rfl ?_
      intro Z HZ
      go_wp2
      refine bodyPost_ret (results_tmp2 rfl _ _ _) rfl ?_
      obtain rfl := HZ.out
      refine ⟨sb, km, kl, kh, g3, cap3, g1, cap1, g2, cap2, V.heap.size, rfl, ?_⟩
      exact {
        file := HB5.out.ch HC9.out (by simp; exact fun e => HM6.out.ne HB6.out e.symm)
        sl := HR5.out.ch HC9.out (fun g hg => by simp; exact HM5.out.neRow HR5.out hg)
        si := HS5.out.ch HC9.out (fun g hg => by simp; exact HM5.out.neRow HS5.out hg)
        mp := by
          have := HHM7.out
          rw [putL_none (by rw [List.map_map]; exact HNO.out)] at this
          exact this
        grp := Row.ch (w := w5) h1 (Ch.put (Ch.refl [mb] _) (.inl (by simp)) _ _) (fun g hg => by simp; exact HM7.out.neRow h1 hg)
        sec := HSEC.out.ch HC8.out (by simp; omega)
        hkm := HMK.out.ch HC8.out (by simp; omega)
        hkh := HMH.out.ch HC8.out (by simp; omega)
        hkl := HRK.out.ch HC8.out (fun g hg => by cases hg; simp; omega)
        ne := hkk
        n0 := HC5.out.size
        lt1 := HG5.out
        lt2 := HG6.out
        own1 := hown1
        own2 := hown2
        nsb := hsb
        nkm := hkm
        nkl := hkl
        nkh := hkh
        ngb := by
          rcases h3 with h | h
          · cases h
          · rw [h]; simp; omega
        ch := (HC5.out.mono (fun x hx => .inl (List.mem_cons_of_mem _ hx))).trans HC9.out (by simp) }
end Go.Proofs.YtfnncdngfggcjaaGreatDoor
