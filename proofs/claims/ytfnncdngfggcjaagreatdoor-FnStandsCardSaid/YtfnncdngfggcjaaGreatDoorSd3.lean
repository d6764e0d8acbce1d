/- Contract of impl.String at a text of lines whose key asks for another one. -/
import Derived.Test.YtfnncdngfggcjaaGreatDoorPt1
import Derived.Test.YtfnncdngfggcjaaGreatDoorSd2
namespace Go.Proofs.YtfnncdngfggcjaaGreatDoor
open Go.RowKit

set_option maxHeartbeats 1000000 in
theorem ends_ask (kb : Nat) (wa : World) (res : ByteArray) (w : World) (hw : Ch [] wa w)
    (H75 : Hid (∀ (bb : Nat) (W : World), wa.heap.size ≤ bb → Ch [] wa W → Blk W bb 3 [.int .i64 2000] → Calls Tryz.prog 75 #[.pointer (some ⟨kb, 0, none⟩), .pointer (some ⟨bb, 0, none⟩), .int .i64 20] W fun e w' => e = .returned (.tuple #[.string res, .bool true]) ∧ Hid (Ch [] wa w'))) :
    Calls Tryz.prog 55 #[.pointer (some ⟨kb, 0, none⟩)] w fun e w' => e = .returned (.bool true) ∧ Hid (Ch [] wa w') := by
  have HB := Lib.hid (Blk.new w 3 [.int .i64 2000])
  have HC : Hid (Ch [] wa (w.alloc (.cells #[.int .i64 2000] 3))) := hw.alloc _
  have hsz := hw.size
  clear hw
  go_enter Tryz.func55, Tryz.ntmps55
  go_wp2_with (go_at_call 75; refine (H75.out w.heap.size _ hsz HC.out HB.out).mono ?_; rintro e w' ⟨rfl, HC2⟩)
  go_ret
  exact ⟨rfl, HC2⟩
set_option maxHeartbeats 1000000 in
theorem keyString_ask (kb : Nat) (wa : World) (val res : ByteArray) (w : World) (hc : w.cell? ⟨kb, 3, none⟩ = some (.string val))
    (H76 : Hid (Calls Tryz.prog 76 #[.pointer (some ⟨kb, 0, none⟩), .string val] w fun e w' => e = .returned (.string res) ∧ Hid (Ch [] wa w'))) :
    Calls Tryz.prog 56 #[.pointer (some ⟨kb, 0, none⟩)] w fun e w' => e = .returned (.string res) ∧ Hid (Ch [] wa w') := by
  go_enter Tryz.func56, Tryz.ntmps56
  go_wp2_with (go_at_call 76; refine H76.out.mono ?_; rintro e w' ⟨rfl, HC2⟩)
  go_ret
  exact ⟨rfl, HC2⟩

/-- What the file tells of a key of a section, with what it asks for. -/
def Asks (fb : Nat) (sec key res : ByteArray) (w1 : World) : Prop :=
  ∃ sb kb, (Calls Tryz.prog 41 #[ptr fb, .string sec] w1 fun e w' => e = .returned (.tuple #[ptr sb, .nilIface]) ∧ w1 = w') ∧
    (Calls Tryz.prog 46 #[ptr sb, .string key] w1 fun e w' => e = .returned (.tuple #[ptr kb, .nilIface]) ∧ w1 = w') ∧
    (∀ W, Ch [] w1 W → Calls Tryz.prog 55 #[ptr kb] W fun e w' => e = .returned (.bool true) ∧ Hid (Ch [] w1 w')) ∧
    (∀ W, Ch [] w1 W → Calls Tryz.prog 56 #[ptr kb] W fun e w' => e = .returned (.string res) ∧ Hid (Ch [] w1 w'))

set_option maxRecDepth 100000 in
set_option maxHeartbeats 4000000 in
theorem string_of (B : Nat) (ea fa : Addr) (t : Bool) (lines : List Ln) (txt sec key res : ByteArray) (w : World) (hT : Hid (TextOK false t lines txt)) (g : Glob w B ea fa) (htab : Hid (t = true → SpcTab w))
    (hask : Hid (∀ B' w0 fb w', LoadedR B' false (runP false ⟨[(dflt, [])], 0, 1⟩ lines).v w0 fb w' → Asks fb sec key res w')) :
    Calls Tryz.prog 29 #[.int .i64 0, .string txt, .string sec, .string key] w fun e w' => e = .returned (.tuple #[.string res, .bool true]) ∧ Hid (Kept B w w') := by
  have hmf : ∀ (fn : Fn) (first cap : Array Value) (w : World), (Instr.makeFunc fn first cap).run Tryz.prog w = .ok (.func fn first cap) w := fun _ _ _ _ => rfl
  have HC0 : Hid (Ch [] w ((w.alloc (.cells #[.string es] 9)).alloc (.cells #[.bool false] 4))) := ((Ch.refl [] w).alloc _).alloc _
  have HLD := Lib.hid (loaded_of _ ea fa 0 false t (.inl ⟨rfl, rfl⟩) lines txt _ hT (g.ch HC0.out (by simp)).up (fun ht => (htab.out ht).nil HC0.out))
  have HB1 := Lib.hid ((Blk.new w 9 [.string es]).alloc (.cells #[.bool false] 4))
  have HB2 := Lib.hid (Blk.newM (w.alloc (.cells #[.string es] 9)) 4 [.bool false] (w.heap.size + 1) (by simp))
  have hBw := g.hB
  clear g
  go_enter_defers Tryz.func29, Tryz.ntmps29
  go_wp2_with (first
    | (go_at_call 40; go_loud (refine HLD.out.mono ?_)
       intro e w1 hh
       obtain ⟨fb, hfb, HL⟩ := hh
       subst hfb
       obtain ⟨sb, kb, h1, h2, h3, h4⟩ := hask.out _ _ fb w1 HL.out
       have H1 := Lib.hid h1
       have H2 := Lib.hid h2
       have H3 := Lib.hid h3
       have H4 := Lib.hid h4
       have hk : Kept ((w.alloc (.cells #[.string es] 9)).alloc (.cells #[.bool false] 4)).heap.size ((w.alloc (.cells #[.string es] 9)).alloc (.cells #[.bool false] 4)) w1 := by
         obtain ⟨own, σ, dsv, slv, siv, mb, _, _, hk⟩ := HL.out
         exact hk
       have hsz : ((w.alloc (.cells #[.string es] 9)).alloc (.cells #[.bool false] 4)).heap.size = w.heap.size + 2 := by simp
       have HW : Hid (Kept B w w1) := Kept.trans ⟨[], HC0.out, by simp⟩ (hk.down (by omega))
       rw [hsz] at hk
       obtain ⟨S, hS1, hS2⟩ := hk
       have HB3 : Hid (Blk w1 w.heap.size 9 [.string es]) := HB1.out.ch hS1 (fun hm => by have := hS2 _ hm; omega)
       have HB4 : Hid (Blk w1 (w.heap.size + 1) 4 [.bool false]) := HB2.out.ch hS1 (fun hm => by have := hS2 _ hm; omega)
       clear hS1 hS2 h1 h2 h3 h4 hsz
       unfold ptr at *)
    | (go_at_call 41; refine H1.out.mono ?_; rintro e w' ⟨rfl, rfl⟩)
    | (go_at_call 46; refine H2.out.mono ?_; rintro e w' ⟨rfl, rfl⟩)
    | (go_at_call 55; refine (H3.out _ (Ch.refl [] _)).mono ?_; rintro e w2 ⟨rfl, HC2⟩)
    | (go_at_call 56; refine (H4.out _ HC2.out).mono ?_
       rintro e w3 ⟨rfl, HC3⟩
       have HB5 := Lib.hid (HB3.out.ch HC3.out (by simp))
       have HB6 := Lib.hid (HB4.out.ch HC3.out (by simp))
       have hc1 := HB5.out.cells
       have hc2 := HB6.out.cells
       have hf1 := HB5.out.frees
       have hf2 := HB6.out.frees
       have HW3 : Hid (Kept B w w3) := HW.out.trans ⟨[], HC3.out, by simp⟩))
  refine leaves_cons (f := 54) (args := #[.pointer (some ⟨w.heap.size, 0, none⟩), .pointer (some ⟨w.heap.size + 1, 0, none⟩)]) (by simp) (by simp [go_sem]) ?_
  refine (idle_54 _ _ _).mono ?_
  rintro e u' w'' ⟨rfl, rfl, rfl⟩
  simp [Leaves, settle, results, Tryz.results29, go_sem, hc1, hc2]
  exact HW3.out.trans ⟨[w.heap.size, w.heap.size + 1], ((Ch.refl _ _).set (by simp) _).set (by simp) _, fun b hb => by simp at hb; omega⟩
end Go.Proofs.YtfnncdngfggcjaaGreatDoor
