/- Contracts of the small functions between a source and its reader, and of newFile. -/
import Derived.Test.YtfnncdngfggcjaaGreatDoorFilM
import Derived.Sort.WalkA6
namespace Go.Proofs.YtfnncdngfggcjaaGreatDoor
open Go.RowKit

set_option maxHeartbeats 400000 in
theorem newReader_any (dv : Option Addr) (L cap : Nat) (w : World) :
    Calls Tryz.prog 229 #[.slice dv L cap] w fun e w' => e = .returned (.pointer (some ⟨w.heap.size, 0, none⟩)) ∧ w.alloc (.cells #[.slice dv L cap, .int .i64 0, .int .i64 (-1)] 296) = w' := by
  go_enter Tryz.func229, Tryz.ntmps229
  go_wp2
  go_ret
  exact ⟨rfl, rfl⟩

set_option maxHeartbeats 400000 in
theorem nopCloser_any (br : Nat) (w : World) :
    Calls Tryz.prog 114 #[.iface 293 (.pointer (some ⟨br, 0, none⟩))] w fun e w' => e = .returned (.iface 179 (.agg #[.iface 293 (.pointer (some ⟨br, 0, none⟩))])) ∧ w = w' := by
  have hta : ∀ W, (Instr.typeAssert (.iface 293 (.pointer (some ⟨br, 0, none⟩))) 159 176 true).run Tryz.prog W = .ok (.tuple #[.iface 293 (.pointer (some ⟨br, 0, none⟩)), .bool true]) W := fun _ => by kernel_rfl
  go_enter Tryz.func114, Tryz.ntmps114
  go_wp2
  go_ret
  exact ⟨rfl, rfl⟩

/-- The options of a file, as its struct. -/
def optAgg (sh : Bool) (a b c : ByteArray) : Value := .agg #[.bool false, .bool false, .bool false, .bool false, .bool false, .bool false, .bool false, .bool false, .bool false, .bool sh, .bool false, .bool false, .bool false, .bool false, .bool false,
   .slice none 0 0, .string a, .string b, .string c, .bool false, .int .i64 0, .bool false, .bool false]

theorem wpList_run_build {P : Program} {w : World} {ops : Array Oper} {rest : List Oper} {o : Oper} {a : Act} {Q : Exit → Act → World → Prop} (hgd : o.guard = none) (t : TypeId) (parts : Array (Nat × Operand)) (ho : o.op = .build t parts)
    (v : Value) (vals : Array (Nat × Value)) (hv : (parts.map fun (i, x) => (i, a.eval x)) = vals) (hrun : (Instr.build t vals).run P w = .ok v w) (h : wpList P ops Q rest (a.put o.dst v) w) : wpList P ops Q (o :: rest) a w :=
  wpList_plain hgd fun _ hK => by
    unfold Oper.wp execOp
    subst hv
    simp only [ho, Sem.run_bind, hrun, Result.andThen_ok]
    exact hK _ _ h
theorem unhid {p : Prop} (h : Hid p) : p := h
def optCells (sh : Bool) (a b c : ByteArray) : List Value := [.bool false, .bool false, .bool false, .bool false, .bool false, .bool false, .bool false, .bool false, .bool false, .bool sh, .bool false, .bool false, .bool false, .bool false, .bool false,
   .slice none 0 0, .string a, .string b, .string c, .bool false, .int .i64 0, .bool false, .bool false]

set_option maxRecDepth 100000 in
set_option maxHeartbeats 1000000 in
theorem newFile_any (dsb : Nat) (sh : Bool) (w : World) :
    Calls Tryz.prog 92 #[.slice (some ⟨dsb, 0, none⟩) 1 1, optAgg sh es es es] w fun e w' => ∃ fb mb, e = .returned (.pointer (some ⟨fb, 0, none⟩)) ∧ w.heap.size ≤ fb ∧ w.heap.size ≤ mb ∧ Blk w' fb 102 (fileCells sh (.slice (some ⟨dsb, 0, none⟩) 1 1) (.slice none 0 0) (.slice none 0 0) mb) ∧ MapAt w' mb [] ∧ Ch [] w w' := by
  have hmm := @run_makeMap Tryz.prog
  have hbuild : ∀ W mb, (Instr.build 102 #[(2, .bool true), (1, .slice (some ⟨dsb, 0, none⟩) 1 1), (5, .map (some mb)), (0, .agg (optCells sh ⟨#[61, 58]⟩ ⟨#[61]⟩ ⟨#[46]⟩).toArray)]).run Tryz.prog W = .ok (.agg (fileCells sh (.slice (some ⟨dsb, 0, none⟩) 1 1) (.slice none 0 0) (.slice none 0 0) mb).toArray) W := fun _ _ => by kernel_rfl
  have HBU := Lib.hid hbuild
  have HMM := Lib.hid hmm
  clear hbuild hmm
  unfold optAgg
  go_enter Tryz.func92, Tryz.ntmps92
  refine wp_seq_k fun K hK0 => ?_
  have HK := Lib.hid hK0
  clear hK0
  go_wp2
  refine HK.out _ _ ?_
  clear HK K
  refine wp_gen (fun V => Hid (Blk V w.heap.size 89 (optCells sh es es es)) ∧ Hid (Ch [] w V)) ⟨Blk.new w 89 (optCells sh es es es), (Ch.refl [] w).alloc _⟩ ?_
  rintro V ⟨HB, HC⟩
  have hc := HB.out.cells
  have hf := HB.out.frees
  simp only [optCells] at hc
  refine wp_seq_k fun K hK0 => ?_
  have HK := Lib.hid hK0
  clear hK0
  go_wp2
  refine HK.out _ _ ?_
  clear HK K
  refine wp_gen (fun V => Hid (Blk V w.heap.size 89 (optCells sh ⟨#[61, 58]⟩ es es)) ∧ Hid (Ch [] w V)) ⟨HB.out.set 16 _, HC.out.set (.inr (Nat.le_refl _)) _⟩ ?_
  clear hc hf HB HC
  clear V
  rintro V ⟨HB, HC⟩
  have hc := HB.out.cells
  have hf := HB.out.frees
  simp only [optCells] at hc
  refine wp_seq_k fun K hK0 => ?_
  have HK := Lib.hid hK0
  clear hK0
  go_wp2
  refine HK.out _ _ ?_
  clear HK K
  refine wp_gen (fun V => Hid (Blk V w.heap.size 89 (optCells sh ⟨#[61, 58]⟩ ⟨#[61]⟩ es)) ∧ Hid (Ch [] w V)) ⟨HB.out.set 17 _, HC.out.set (.inr (Nat.le_refl _)) _⟩ ?_
  clear hc hf HB HC
  clear V
  rintro V ⟨HB, HC⟩
  have hc := HB.out.cells
  have hf := HB.out.frees
  simp only [optCells] at hc
  refine wp_seq_k fun K hK0 => ?_
  have HK := Lib.hid hK0
  clear hK0
  go_wp2
  refine HK.out _ _ ?_
  clear HK K
  refine wp_gen (fun V => Hid (Blk V w.heap.size 89 (optCells sh ⟨#[61, 58]⟩ ⟨#[61]⟩ ⟨#[46]⟩)) ∧ Hid (Ch [] w V)) ⟨HB.out.set 18 _, HC.out.set (.inr (Nat.le_refl _)) _⟩ ?_
  clear hc hf HB HC
  clear V
  rintro V ⟨HB, HC⟩
  have hc := HB.out.cells
  have hf := HB.out.frees
  simp only [optCells] at hc
  have hmm := HMM.out
  clear hc hf
  go_wp2_with (first
    | (refine wpList_run_build rfl 102 _ (by with_reducible rfl) _ #[(2, .bool true), (1, .slice (some ⟨dsb, 0, none⟩) 1 1), (5, .map (some V.heap.size)), (0, .agg (optCells sh ⟨#[61, 58]⟩ ⟨#[61]⟩ ⟨#[46]⟩).toArray)] (by kernel_rfl) (HBU.out _ V.heap.size) ?_)
    | refine wpList_load_row rfl 89 (.tmp 3) (by with_reducible rfl) w.heap.size rfl 89 (optCells sh ⟨#[61, 58]⟩ ⟨#[61]⟩ ⟨#[46]⟩).toArray (0, 0) _ (HB.out.alloc _) Tryz.underlying89 rfl (by kernel_rfl) ?_)
  go_ret
  have hsz := HC.out.size
  exact ⟨V.heap.size + 1, V.heap.size, rfl, by omega, by omega, Blk.newM (V.alloc (.map #[] 0)) 102 _ _ (by simp), (MapAt.new V).alloc _, (HC.out.alloc _).alloc _⟩
end Go.Proofs.YtfnncdngfggcjaaGreatDoor
