/- Contracts of the parser's BOM: no mark stands ahead of an empty text, nor of one that begins with a byte below 128. -/
import Derived.Test.YtfnncdngfggcjaaGreatDoorNp
namespace Go.Proofs.YtfnncdngfggcjaaGreatDoor
open Go.RowKit

theorem run_neq_eof (ea : Addr) (w : World) :
    (Go.binOp .neq 64 (.iface 138 (.pointer (some ea))) (.iface 138 (.pointer (some ea)))).run Tryz.prog w = .ok (.bool false) w := by
  obtain ⟨i, hi, hc⟩ := info138
  obtain ⟨j, hj, _⟩ := info140
  simp only [Go.binOp]
  simp [Op.equal, Op.maxDepth, run_equalIn_iface_ptr_same w 9998 ea Tryz.underlying64 Tryz.underlying138 hi hc hj]

set_option maxRecDepth 100000 in
set_option maxHeartbeats 1000000 in
theorem bom_empty (pb cb rb bb br B : Nat) (dv : Option Addr) (cap : Nat) (pr : Int) (cnt : Int) (ea fa : Addr) (w : World)
    (hb : Blk w br 296 [.slice dv 0 cap, .int .i64 0, .int .i64 pr]) (g : Glob w B ea fa) (h1 : B ≤ rb)
    (hr : Blk w rb 231 (rdCells bb br 0 0 .nilIface (-1) (-1))) (hp : Blk w pb 206 (parCells rb cb false cnt)) :
    Calls Tryz.prog 132 #[.pointer (some ⟨pb, 0, none⟩)] w fun e w' => e = .returned .nilIface ∧ Blk w' rb 231 (rdCells bb br 0 0 .nilIface (-1) (-1)) ∧ Ch [rb] w w' := by
  have H := Lib.hid (peek_empty rb bb br dv cap pr (-1) (-1) ea w hb g.eof (by have := g.h6; omega) hr (hr.ne hb (by decide)))
  have hc := hp.cells
  simp only [parCells] at hc
  have hpr : pb ≠ rb := hp.ne hr (by decide)
  have HP := Lib.hid hp
  have G := Lib.hid g
  clear g hb hr hp
  go_enter Tryz.func132, Tryz.ntmps132
  go_wp2_with (go_at_call 133; refine H.out.mono ?_; rintro e W ⟨rfl, hW, hW2⟩; have c6 := (G.out.ch hW2 (by simp [h1])).eof; have hneq := run_neq_eof ea; replace hW := Lib.hid hW; replace hW2 := Lib.hid hW2)
  go_ret
  exact ⟨rfl, hW.out, hW2.out⟩

theorem splice_get {l : List UInt8} {cs : List Value} {i : Nat} {c : UInt8} (h : l[i]? = some c) : (splice cs 0 (u8s l))[i]? = some (.int .u8 c.toNat) := by
  have hl : i < l.length := (List.getElem?_eq_some_iff.1 h).1
  unfold splice
  rw [List.take_zero, List.nil_append, List.getElem?_append_left (by rw [u8s_length]; exact hl)]
  unfold u8s
  rw [List.getElem?_map, h]; rfl

set_option maxRecDepth 100000 in
set_option maxHeartbeats 1000000 in
theorem bom_data (pb cb rb bb br db L : Nat) (txt : List UInt8) (b0 b1 : UInt8) (tl : List UInt8) (htx : txt = b0 :: b1 :: tl) (hb0 : b0.toNat < 128) (hLt : L = txt.length) (cap : Nat) (pr cnt : Int) (cs : List Value) (w : World) (hL : L ≤ 4096)
    (hb : Blk w br 296 [.slice (some ⟨db, 0, none⟩) L cap, .int .i64 0, .int .i64 pr])
    (hbb : Blk w bb 5 cs) (hlen : 4096 = cs.length) (hd : ∀ j c, txt[j]? = some c → w.cell? ⟨db, j, none⟩ = some (.int .u8 c.toNat)) (hcap : L ≤ cap) (hne : db ≠ br) (hdl : db < w.heap.size)
    (hr : Blk w rb 231 (rdCells bb br 0 0 .nilIface (-1) (-1))) (hdr : db ≠ rb) (hp : Blk w pb 206 (parCells rb cb false cnt)) :
    Calls Tryz.prog 132 #[.pointer (some ⟨pb, 0, none⟩)] w fun e w' => e = .returned .nilIface ∧ Blk w' rb 231 (rdCells bb br 0 L .nilIface (-1) (-1)) ∧
      Blk w' br 296 [.slice (some ⟨db, 0, none⟩) L cap, .int .i64 L, .int .i64 (-1)] ∧ Blk w' bb 5 (splice cs 0 (u8s txt)) ∧ Ch [rb, br, bb] w w' := by
  have H := Lib.hid (peek_data rb bb br db L txt hLt cap pr (-1) (-1) cs w hL (by rw [hLt, htx]; simp) hb hbb hlen hd hcap hne hdl hr hdr)
  have hc := hp.cells
  simp only [parCells] at hc
  have hg0 : (splice cs 0 (u8s txt))[0]? = some (.int .u8 b0.toNat) := splice_get (by rw [htx]; rfl)
  have hg1 : (splice cs 0 (u8s txt))[1]? = some (.int .u8 b1.toNat) := splice_get (by rw [htx]; rfl)
  have Hg0 := Lib.hid hg0
  have Hg1 := Lib.hid hg1
  have e1 : ((b0.toNat : Int) == 254) = false := beq_eq_false_iff_ne.2 (by omega)
  have e2 : ((b0.toNat : Int) == 255) = false := beq_eq_false_iff_ne.2 (by omega)
  have e3 : ((b0.toNat : Int) == 239) = false := beq_eq_false_iff_ne.2 (by omega)
  clear htx hb hr hp hd hbb hLt hlen hg0 hg1
  go_enter Tryz.func132, Tryz.ntmps132
  go_wp2_with (go_at_call 133; refine H.out.mono ?_; rintro e W ⟨rfl, hW, hW1, hW3, hW2⟩; have c0 : W.cell? ⟨bb, 0, none⟩ = some (.int .u8 b0.toNat) := (hW3.cells 0).trans Hg0.out; have c1 : W.cell? ⟨bb, 1, none⟩ = some (.int .u8 b1.toNat) := (hW3.cells 1).trans Hg1.out; replace hW := Lib.hid hW; replace hW1 := Lib.hid hW1; replace hW2 := Lib.hid hW2; replace hW3 := Lib.hid hW3)
  all_goals go_ret
  all_goals exact ⟨rfl, hW.out, hW1.out, hW3.out, hW2.out⟩
end Go.Proofs.YtfnncdngfggcjaaGreatDoor
