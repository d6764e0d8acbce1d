/- Contract of optionsOf at 0 and at 2. -/
import Derived.Test.YtfnncdngfggcjaaGreatDoorLs
import Derived.Laws.Tables
namespace Go.Proofs.YtfnncdngfggcjaaGreatDoor
open Go.RowKit

set_option maxRecDepth 100000 in
set_option maxHeartbeats 1000000 in
theorem optionsOf_0 (w : World) : Calls Tryz.prog 63 #[.int .i64 0] w fun e w' => e = .returned (optAgg false es es es) ∧ Hid (Ch [] w w') := by
  have hbuild : ∀ W, (Instr.build 89 #[(8, .bool false), (9, .bool false), (1, .bool false), (4, .bool false), (5, .bool false), (6, .bool false), (13, .bool false), (19, .bool false), (22, .bool false), (12, .bool false), (11, .bool false), (14, .bool false), (21, .bool false)]).run Tryz.prog W = .ok (.agg (optCells false es es es).toArray) W := fun _ => by kernel_rfl
  have HBU := Lib.hid hbuild
  have HB0 := Lib.hid (Blk.new w 89 (optCells false es es es))
  clear hbuild
  go_enter Tryz.func63, Tryz.ntmps63
  go_wp2_with (first
    | (refine wpList_run_build rfl 89 _ (by with_reducible rfl) (.agg (optCells false es es es).toArray) #[(8, .bool false), (9, .bool false), (1, .bool false), (4, .bool false), (5, .bool false), (6, .bool false), (13, .bool false), (19, .bool false), (22, .bool false), (12, .bool false), (11, .bool false), (14, .bool false), (21, .bool false)] (by kernel_rfl) (HBU.out _) ?_)
    | (refine wpList_store_row rfl 89 (.tmp 2) (.tmp 42) (by with_reducible rfl) w.heap.size (optCells false es es es).toArray rfl rfl 89 (optCells false es es es).toArray HB0.out (by kernel_rfl) rfl (by kernel_rfl) ?_))
  refine bodyPost_ret (results_cell_row rfl _ _ w.heap.size 89 (optCells false es es es).toArray (0, 0) _ rfl (setRow_ch HB0.out (optCells false es es es)).1 Tryz.underlying89 rfl (by kernel_rfl)) rfl ?_
  exact ⟨rfl, ((Ch.refl [] w).alloc _).trans (setRow_ch HB0.out (optCells false es es es)).2 (fun x hx => by rw [List.mem_singleton] at hx; exact .inr (Nat.le_of_eq hx.symm))⟩

set_option maxRecDepth 100000 in
set_option maxHeartbeats 1000000 in
theorem optionsOf_2 (w : World) : Calls Tryz.prog 63 #[.int .i64 2] w fun e w' => e = .returned (optAgg true es es es) ∧ Hid (Ch [] w w') := by
  have hbuild : ∀ W, (Instr.build 89 #[(8, .bool false), (9, .bool true), (1, .bool false), (4, .bool false), (5, .bool false), (6, .bool false), (13, .bool false), (19, .bool false), (22, .bool false), (12, .bool false), (11, .bool false), (14, .bool false), (21, .bool false)]).run Tryz.prog W = .ok (.agg (optCells true es es es).toArray) W := fun _ => by kernel_rfl
  have HBU := Lib.hid hbuild
  have HB0 := Lib.hid (Blk.new w 89 (optCells false es es es))
  clear hbuild
  go_enter Tryz.func63, Tryz.ntmps63
  go_wp2_with (first
    | (refine wpList_run_build rfl 89 _ (by with_reducible rfl) (.agg (optCells true es es es).toArray) #[(8, .bool false), (9, .bool true), (1, .bool false), (4, .bool false), (5, .bool false), (6, .bool false), (13, .bool false), (19, .bool false), (22, .bool false), (12, .bool false), (11, .bool false), (14, .bool false), (21, .bool false)] (by kernel_rfl) (HBU.out _) ?_)
    | (refine wpList_store_row rfl 89 (.tmp 2) (.tmp 42) (by with_reducible rfl) w.heap.size (optCells true es es es).toArray rfl rfl 89 (optCells false es es es).toArray HB0.out (by kernel_rfl) rfl (by kernel_rfl) ?_))
  refine bodyPost_ret (results_cell_row rfl _ _ w.heap.size 89 (optCells true es es es).toArray (0, 0) _ rfl (setRow_ch HB0.out (optCells true es es es)).1 Tryz.underlying89 rfl (by kernel_rfl)) rfl ?_
  exact ⟨rfl, ((Ch.refl [] w).alloc _).trans (setRow_ch HB0.out (optCells true es es es)).2 (fun x hx => by rw [List.mem_singleton] at hx; exact .inr (Nat.le_of_eq hx.symm))⟩

end Go.Proofs.YtfnncdngfggcjaaGreatDoor
