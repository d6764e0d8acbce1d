/- Contract of impl.Parent at a text of lines. -/
import Derived.Test.YtfnncdngfggcjaaGreatDoorLdd
import Derived.Test.YtfnncdngfggcjaaGreatDoorCl
import Derived.Test.YtfnncdngfggcjaaGreatDoorFi2
namespace Go.Proofs.YtfnncdngfggcjaaGreatDoor
open Go.RowKit

/-- What the file tells of a key of a section: the key, in block kb, holds val. -/
def Tells (fb : Nat) (sec name val : ByteArray) (w : World) : Prop :=
  ∃ sb kb, (Calls Tryz.prog 41 #[ptr fb, .string sec] w fun e w' => e = .returned (.tuple #[ptr sb, .nilIface]) ∧ w = w') ∧
    (Calls Tryz.prog 46 #[ptr sb, .string name] w fun e w' => e = .returned (.tuple #[ptr kb, .nilIface]) ∧ w = w') ∧ w.cell? ⟨kb, 3, none⟩ = some (.string val)

theorem Glob.up {w : World} {B : Nat} {ea fa : Addr} (g : Glob w B ea fa) : Glob w w.heap.size ea fa :=
  { h6 := Nat.lt_of_lt_of_le g.h6 g.hB, h8 := Nat.lt_of_lt_of_le g.h8 g.hB, hB := Nat.le_refl _, eof := g.eof, full := g.full, ne := g.ne, le := Nat.lt_of_lt_of_le g.le g.hB, lf := Nat.lt_of_lt_of_le g.lf g.hB, be := g.be, bf := g.bf }
theorem Kept.down {B B' : Nat} {w w' : World} (h : Kept B' w w') (hB : B ≤ B') : Kept B w w' := by
  obtain ⟨S, h1, h2⟩ := h
  exact ⟨S, h1, fun b hb => Nat.le_trans hB (h2 b hb)⟩

set_option maxHeartbeats 400000 in
theorem keyValue_any (kb : Nat) (val : ByteArray) (w : World) (h : w.cell? ⟨kb, 3, none⟩ = some (.string val)) :
    Calls Tryz.prog 47 #[ptr kb] w fun e w' => e = .returned (.string val) ∧ w = w' := by
  unfold ptr
  go_enter Tryz.func47, Tryz.ntmps47
  go_wp2
  go_ret
  exact ⟨rfl, rfl⟩

set_option maxRecDepth 100000 in
set_option maxHeartbeats 2000000 in
theorem parent_of (B : Nat) (ea fa : Addr) (t : Bool) (lines : List Ln) (txt sec name val : ByteArray) (w : World) (hT : Hid (TextOK false t lines txt)) (g : Glob w B ea fa) (htab : Hid (t = true → SpcTab w))
    (htell : Hid (∀ B' w0 fb w', LoadedR B' false (runP false ⟨[(dflt, [])], 0, 1⟩ lines).v w0 fb w' → Tells fb sec name val w')) :
    Calls Tryz.prog 22 #[.string txt, .string sec, .string name] w fun e w' => e = .returned (.tuple #[.string val, .bool true]) ∧ Hid (Kept B w w') := by
  have hmf : ∀ (fn : Fn) (first cap : Array Value) (w : World), (Instr.makeFunc fn first cap).run Tryz.prog w = .ok (.func fn first cap) w := fun _ _ _ _ => rfl
  have HC0 : Hid (Ch [] w ((w.alloc (.cells #[.string es] 9)).alloc (.cells #[.bool false] 4))) := ((Ch.refl [] w).alloc _).alloc _
  have HLD := Lib.hid (loaded_of _ ea fa 0 false t (.inl ⟨rfl, rfl⟩) lines txt _ hT (g.ch HC0.out (by simp)).up (fun ht => (htab.out ht).nil HC0.out))
  have HB1 := Lib.hid ((Blk.new w 9 [.string es]).alloc (.cells #[.bool false] 4))
  have HB2 := Lib.hid (Blk.newM (w.alloc (.cells #[.string es] 9)) 4 [.bool false] (w.heap.size + 1) (by simp))
  have hBw := g.hB
  clear g
  go_enter_defers Tryz.func22, Tryz.ntmps22
  go_wp2_with (first
    | (go_at_call 40; refine HLD.out.mono ?_
       rintro e w1 ⟨fb, rfl, HL⟩
       obtain ⟨sb, kb, h1, h2, h3⟩ := htell.out _ _ fb w1 HL.out
       have H1 := Lib.hid h1
       have H2 := Lib.hid h2
       have H3 := Lib.hid (keyValue_any kb val w1 h3)
       have hk : Kept ((w.alloc (.cells #[.string es] 9)).alloc (.cells #[.bool false] 4)).heap.size ((w.alloc (.cells #[.string es] 9)).alloc (.cells #[.bool false] 4)) w1 := by
         obtain ⟨own, σ, dsv, slv, siv, mb, _, _, hk⟩ := HL.out
         exact hk
       have hsz : ((w.alloc (.cells #[.string es] 9)).alloc (.cells #[.bool false] 4)).heap.size = w.heap.size + 2 := by simp
       have HW : Hid (Kept B w w1) := Kept.trans ⟨[], HC0.out, by simp⟩ (hk.down (by omega))
       rw [hsz] at hk
       obtain ⟨S, hS1, hS2⟩ := hk
       have hb1 : Blk w1 w.heap.size 9 [.string es] := HB1.out.ch hS1 (fun hm => by have := hS2 _ hm; omega)
       have hb2 : Blk w1 (w.heap.size + 1) 4 [.bool false] := HB2.out.ch hS1 (fun hm => by have := hS2 _ hm; omega)
       have hc1 := hb1.cells
       have hc2 := hb2.cells
       have hf1 := hb1.frees
       have hf2 := hb2.frees
       clear hS1 hS2 h1 h2 h3 hsz hb1 hb2
       unfold ptr)
    | (go_at_call 41; refine H1.out.mono ?_; rintro e w' ⟨rfl, rfl⟩)
    | (go_at_call 46; refine H2.out.mono ?_; rintro e w' ⟨rfl, rfl⟩)
    | (go_at_call 47; refine H3.out.mono ?_; rintro e w' ⟨rfl, rfl⟩))
  refine leaves_cons (f := 45) (args := #[.pointer (some ⟨w.heap.size, 0, none⟩), .pointer (some ⟨w.heap.size + 1, 0, none⟩)]) (by simp) (by simp [go_sem]) ?_
  refine (idle_45 _ _ _).mono ?_
  rintro e u' w'' ⟨rfl, rfl, rfl⟩
  simp [Leaves, settle, results, Tryz.results22, go_sem, hc1, hc2]
  exact HW.out.trans ⟨[w.heap.size, w.heap.size + 1], ((Ch.refl _ _).set (by simp) _).set (by simp) _, fun b hb => by simp at hb; omega⟩
end Go.Proofs.YtfnncdngfggcjaaGreatDoor
