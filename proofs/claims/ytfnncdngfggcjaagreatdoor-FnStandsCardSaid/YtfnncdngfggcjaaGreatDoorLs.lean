/- Contract of LoadSources on one text, by way of parse's; of Empty. -/
import Derived.Test.YtfnncdngfggcjaaGreatDoorRe1
import Derived.Lib.SlBytesConst
namespace Go.Proofs.YtfnncdngfggcjaaGreatDoor
open Go.RowKit

set_option maxRecDepth 100000 in
set_option maxHeartbeats 2000000 in
theorem loadSources_via (dv : Option Addr) (L cap : Nat) (sh : Bool) (w : World) (R : Nat → World → Prop)
    (hparse : ∀ fb br mb dsb W, w.heap.size ≤ fb → w.heap.size ≤ mb → w.heap.size ≤ br → Blk W fb 102 (fileCells sh (.slice (some ⟨dsb, 0, none⟩) 1 1) (.slice none 0 0) (.slice none 0 0) mb) → MapAt W mb [] →
      Blk W br 296 [.slice dv L cap, .int .i64 0, .int .i64 (-1)] → Ch [] w W →
      Calls Tryz.prog 125 #[.pointer (some ⟨fb, 0, none⟩), .iface 179 (.agg #[.iface 293 (.pointer (some ⟨br, 0, none⟩))])] W fun e w' => e = .returned .nilIface ∧ Hid (R fb w'))
    (hR : ∀ fb w' w'', R fb w' → Ch [] w' w'' → R fb w'') (hR7 : ∀ fb w', R fb w' → w'.cell? ⟨fb, 7, none⟩ = some (.bool false)) :
    Calls Tryz.prog 62 #[optAgg sh es es es, .iface 78 (.slice dv L cap), .slice none 0 0] w fun e w' => ∃ fb, e = .returned (.tuple #[.pointer (some ⟨fb, 0, none⟩), .nilIface]) ∧ Hid (R fb w') := by
  have HP := Lib.hid hparse
  have HR := Lib.hid hR
  have HR7 := Lib.hid hR7
  have hmk : ∀ W, (Instr.makeSlice 97 (.int .i64 1) (.int .i64 1)).run Tryz.prog W = .ok (.slice (some ⟨W.heap.size, 0, none⟩) 1 1) (W.alloc (.cells #[.nilIface] 129)) := fun _ => by kernel_rfl
  have HB0 := Lib.hid (Blk.new w 89 (optCells sh es es es))
  clear hparse hR hR7
  unfold optAgg
  go_enter Tryz.func62, Tryz.ntmps62
  go_wp2_with (go_at_call 91; refine (parseDataSource_any dv L cap _).mono ?_; rintro e w' ⟨rfl, rfl⟩)
  refine wp_gen (fun V => Hid (Blk V w.heap.size 89 (optCells sh es es es)) ∧ Hid (Blk V (w.heap.size + 1) 129 [.iface 150 (.pointer (some ⟨w.heap.size + 1 + 1, 0, none⟩))]) ∧ Hid (Blk V (w.heap.size + 1 + 1) 152 [.slice dv L cap]) ∧ Hid (Ch [] w V))
    ⟨(HB0.out.alloc _).alloc _, (Blk.newM (w.alloc (.cells (optCells sh es es es).toArray 89)) 129 [.iface 150 (.pointer (some ⟨w.heap.size + 1 + 1, 0, none⟩))] (w.heap.size + 1) (by simp)).alloc _,
      Blk.newM ((w.alloc (.cells (optCells sh es es es).toArray 89)).alloc (.cells #[.iface 150 (.pointer (some ⟨w.heap.size + 1 + 1, 0, none⟩))] 129)) 152 [.slice dv L cap] (w.heap.size + 1 + 1) (by simp), (((Ch.refl [] w).alloc _).alloc _).alloc _⟩ ?_
  rintro V ⟨HBo, HBd, HBs, HC⟩
  have hsz := HC.out.size
  refine wp_loop_rounds 1 ?_
  rw [rounds_succ]
  go_wp2_with (first
    | (go_at_call 92; refine (newFile_any (w.heap.size + 1) sh _).mono ?_; rintro e W2 ⟨fb, mb, rfl, h1, h2, h3, h4, h5⟩
       have HBd2 := Lib.hid (HBd.out.ch h5 (by simp))
       have HBs2 := Lib.hid (HBs.out.ch h5 (by simp))
       have HF2 := Lib.hid h3
       have HM2 := Lib.hid h4
       have HC2 : Hid (Ch [] w W2) := HC.out.trans h5 (by simp)
       clear h3 h4 h5)
    | (go_at_call 93; refine (Reload_via fb (w.heap.size + 1) (w.heap.size + 1 + 1) (R fb) _ (HF2.out.cells 23) (HBd2.out.cells 0)
         ((reload_via fb (w.heap.size + 1 + 1) dv L cap (R fb) _ HBs2.out (HP.out fb _ mb (w.heap.size + 1) _ (by omega) (by omega) HC2.out.size (HF2.out.alloc _) (HM2.out.alloc _) (Blk.new _ 296 _) (HC2.out.alloc _))).mono
           (fun e w' h => ⟨h.1, let ⟨w1, r1, r2⟩ := h.2; HR.out fb w1 w' r1 r2⟩)) (HR7.out fb)).mono ?_; rintro e W3 ⟨rfl, HRR⟩)
    | (refine wpList_load_row rfl 89 (.tmp 3) (by with_reducible rfl) w.heap.size rfl 89 (optCells sh es es es).toArray (0, 0) _ HBo.out Tryz.underlying89 rfl (by kernel_rfl) ?_))
  refine bodyPost_ret (results_tmp2 rfl _ _ _) rfl ?_
  exact ⟨fb, rfl, HRR⟩

set_option maxRecDepth 100000 in
set_option maxHeartbeats 2000000 in
theorem empty_via (w : World) (R : Nat → World → Prop)
    (H : ∀ (dv : Option Addr) (cap : Nat) (W : World), Ch [] w W → Calls Tryz.prog 62 #[optAgg false es es es, .iface 78 (.slice dv 0 cap), .slice none 0 0] W fun e w' => ∃ fb, e = .returned (.tuple #[.pointer (some ⟨fb, 0, none⟩), .nilIface]) ∧ Hid (R fb w')) :
    Calls Tryz.prog 77 #[.slice none 0 0] w fun e w' => ∃ fb, e = .returned (.pointer (some ⟨fb, 0, none⟩)) ∧ Hid (R fb w') := by
  have HH := Lib.hid H
  have HB0 := Lib.hid (Blk.new w 89 (optCells false es es es))
  have hcv : ∀ u, (convert 78 78 (.slice (some ⟨w.heap.size + 1, 0, none⟩) 0 0)).run Tryz.prog ((w.alloc u).alloc (.cells #[] 5)) = .ok (.slice (some ⟨w.heap.size + 1, 0, none⟩) 0 0) ((w.alloc u).alloc (.cells #[] 5 (0, 1))) := fun u => by
    have h1 := Lib.run_convert_bytes_const (P := Tryz.prog) (w.alloc u) 78 5 #[] 0 0 rfl rfl
    rw [World.size_alloc] at h1
    exact h1
  clear H
  go_enter Tryz.func77, Tryz.ntmps77
  go_wp2_with (first
    | (refine wpList_load_row rfl 89 (.tmp 3) (by with_reducible rfl) w.heap.size rfl 89 (optCells false es es es).toArray (0, 0) _ HB0.out Tryz.underlying89 rfl (by kernel_rfl) ?_)
    | (go_at_call 62; refine (HH.out (some ⟨w.heap.size + 1, 0, none⟩) 0 _ (((Ch.refl [] w).alloc _).alloc _)).mono ?_; rintro e w' ⟨fb, rfl, HR⟩))
  go_ret
  exact ⟨fb, rfl, HR⟩
end Go.Proofs.YtfnncdngfggcjaaGreatDoor
