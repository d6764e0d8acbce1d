/- Contracts of bytes.Reader.Read. -/
import Derived.Test.YtfnncdngfggcjaaGreatDoorBase
import Derived.Deep.QuietTactic
import Derived.BigQuiet
import Derived.BigRegion
import Derived.StillTailTactics
namespace Go.Proofs.YtfnncdngfggcjaaGreatDoor
open Go.RowKit

set_option maxHeartbeats 400000 in
/-- At its end it tells EOF. -/
theorem read_eof (br : Nat) (dv : Option Addr) (L cap : Nat) (pr : Int) (bv : Value) (ev : Value) (w : World)
    (hb : Blk w br 296 [.slice dv L cap, .int .i64 L, .int .i64 pr]) (he : w.cell? ⟨6, 0, none⟩ = some ev) :
    Calls Tryz.prog 242 #[.pointer (some ⟨br, 0, none⟩), bv] w fun e w' => e = .returned (.tuple #[.int .i64 0, ev]) ∧ Dr w w' := by
  have hc := hb.cells
  clear hb
  go_enter Tryz.func242, Tryz.ntmps242
  go_wp2
  go_quiet (fail)
  go_wp2
  go_quiet (fail)
  go_wp2
  go_ret2
  exact ⟨rfl, ((Dr.refl w).drewN _).drewN _⟩


def u8s (l : List UInt8) : List Value := l.map fun c => .int .u8 c.toNat

theorem u8s_length (l : List UInt8) : (u8s l).length = l.length := by simp [u8s]
theorem u8s_get {l : List UInt8} {j : Nat} {v : Value} (h : (u8s l)[j]? = some v) : ∃ c, l[j]? = some c ∧ v = .int .u8 c.toNat := by
  unfold u8s at h
  rw [List.getElem?_map] at h
  cases hl : l[j]? with
  | none => simp [hl] at h
  | some c => exact ⟨c, rfl, by simpa [hl] using h.symm⟩
theorem u8s_one (l : List UInt8) : ∀ v ∈ u8s l, v.oneCell' = true := by
  intro v hv; unfold u8s at hv; obtain ⟨c, _, rfl⟩ := List.mem_map.1 hv; rfl

set_option maxRecDepth 100000 in
set_option maxHeartbeats 400000 in
/-- With data left, into a buffer that has room. -/
theorem read_data (br bb db L : Nat) (txt : List UInt8) (hLt : L = txt.length) (cap : Nat) (pr : Int) (cs : List Value) (w : World) (hL : L ≤ 4096) (h0 : 0 < L)
    (hb : Blk w br 296 [.slice (some ⟨db, 0, none⟩) L cap, .int .i64 0, .int .i64 pr])
    (hbb : Blk w bb 5 cs) (hlen : 4096 = cs.length) (hd : ∀ j c, txt[j]? = some c → w.cell? ⟨db, j, none⟩ = some (.int .u8 c.toNat)) (_hcap : L ≤ cap) (hne : db ≠ br) (_hdl : db < w.heap.size) :
    Calls Tryz.prog 242 #[.pointer (some ⟨br, 0, none⟩), .slice (some ⟨bb, 0, none⟩) 4096 4096] w fun e w' => e = .returned (.tuple #[.int .i64 L, .nilIface]) ∧
      Blk w' br 296 [.slice (some ⟨db, 0, none⟩) L cap, .int .i64 L, .int .i64 (-1)] ∧ Blk w' bb 5 (splice cs 0 (u8s txt)) ∧ Ch [br, bb] w w' := by
  have hc := hb.cells
  have hf := hb.frees
  have hD := Lib.hid hd
  have hbr : br ≠ bb := hb.ne hbb (by decide)
  have HL := Lib.hid hLt
  have Hlen := Lib.hid hlen
  have HB := Lib.hid hb
  have HBB := Lib.hid hbb
  clear hd hLt hlen hb hbb
  go_enter Tryz.func242, Tryz.ntmps242
  go_wp2
  go_quiet (fail)
  go_wp2
  refine wp_gen (fun W => Blk W br 296 [.slice (some ⟨db, 0, none⟩) L cap, .int .i64 0, .int .i64 (-1)] ∧ Blk W bb 5 cs ∧ (∀ j c, txt[j]? = some c → W.cell? ⟨db, j, none⟩ = some (.int .u8 c.toNat)) ∧ Ch [br] w W)
    ⟨(HB.out.drewN _).set 2 _, (HBB.out.drewN _).setCell hbr.symm _, fun j c h => by go_simp; exact hD.out j c h, ((Ch.refl _ _).drewN _).set (by simp) _⟩ ?_
  rintro W ⟨HB, HBB, HD, HC⟩
  have hc := HB.cells
  have hf := HB.frees
  replace HB := Lib.hid HB
  replace HBB := Lib.hid HBB
  replace HD := Lib.hid HD
  replace HC := Lib.hid HC
  go_still_tail 10, (by kernel_rfl)
  change wpList _ _ _ _ _ W.drew
  go_wp2_with (with_reducible refine wpList_copy_blk rfl (.tmp 20) (.tmp 29) 78 78 rfl 5 Tryz.underlying78 (by kernel_rfl) (some ⟨bb, 0, none⟩) (some ⟨db, 0, none⟩) 4096 4096 L cap rfl rfl bb 0 cs 5 HBB.out.drew (u8s txt) ?hn ?hp ?hfit (u8s_one _) ?_)
  case hn => rw [u8s_length, ← HL.out]; exact (Nat.min_eq_left hL).symm
  case hp => exact fun _ j v hv => by obtain ⟨c, h1, rfl⟩ := u8s_get hv; exact HD.out j c h1
  case hfit => rw [u8s_length, ← HL.out, ← Hlen.out]; omega
  intro W2 HB2 HC2
  rw [u8s_length, ← HL.out]
  have HBr := Lib.hid (HB.out.drew.ch HC2 (by simp [hbr]))
  have hc2 := HBr.out.cells
  have hf2 := HBr.out.frees
  clear hc hf
  go_wp2
  go_ret2
  exact ⟨rfl, HBr.out.set 1 _, HB2.out.setCell hbr.symm _, (HC.out.drew.join HC2 (by simp) (by simp)).set (by simp) _⟩
end Go.Proofs.YtfnncdngfggcjaaGreatDoor
