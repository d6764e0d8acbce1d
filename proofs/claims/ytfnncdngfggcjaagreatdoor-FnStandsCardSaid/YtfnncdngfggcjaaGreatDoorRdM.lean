/- Contracts of bytes.Reader.Read. Contracts of bufio.Reader.fill. Contract of bufio.Reader.fill where there is data to read. Contracts of bufio.Reader's readErr and of Peek(2) at the begin of a text. Contracts of bytes.IndexByte, bufio.Reader's Buffered and ReadSlice. The two sentinels that are read (io.EOF, bufio.ErrBufferFull), and contracts of collectFragments. Contracts of bufio.Reader.ReadBytes and of the parser's readUntil. Contracts of bufio.NewReaderSize and of newParser. Contracts of the parser's BOM: no mark stands ahead of an empty text, nor of one that begins with a byte below 128. -/
import Derived.Test.YtfnncdngfggcjaaGreatDoorBase
import Derived.Deep.QuietTactic
import Derived.BigQuiet
import Derived.BigRegion
import Derived.StillTailTactics
import Derived.Deep.RegionWith
import Derived.Deep.RegionHeld3
import Derived.Shelf.Bytes.SlIndexAt
import Derived.LaidEql
import Derived.Deep.OwnRows

namespace Go.Proofs.YtfnncdngfggcjaaGreatDoor
open Go.RowKit

set_option maxHeartbeats 400000 in
/-- At its end it tells EOF. -/
theorem read_eof (br : Nat) (dv : Option Addr) (L cap : Nat) (pr : Int) (bv : Value) (ev : Value) (w : World)
    (hb : Blk w br 296 [.slice dv L cap, .int .i64 L, .int .i64 pr]) (he : w.cell? ⟨6, 0, none⟩ = some ev) :
    Calls Tryz.prog 242 #[.pointer (some ⟨br, 0, none⟩), bv] w fun e w' => e = .returned (.tuple #[.int .i64 0, ev]) ∧ Dr w w' := by
  have hc := hb.cells
  clear hb
  go_enter Tryz.func242, Tryz.ntmps242
  go_wp2
  go_quiet (fail)
  go_wp2
  go_quiet (fail)
  go_wp2
  go_ret2
  exact ⟨rfl, ((Dr.refl w).drewN _).drewN _⟩


def u8s (l : List UInt8) : List Value := l.map fun c => .int .u8 c.toNat

theorem u8s_length (l : List UInt8) : (u8s l).length = l.length := by simp [u8s]
theorem u8s_get {l : List UInt8} {j : Nat} {v : Value} (h : (u8s l)[j]? = some v) : ∃ c, l[j]? = some c ∧ v = .int .u8 c.toNat := by
  unfold u8s at h
  rw [List.getElem?_map] at h
  cases hl : l[j]? with
  | none => simp [hl] at h
  | some c => exact ⟨c, rfl, by simpa [hl] using h.symm⟩
theorem u8s_one (l : List UInt8) : ∀ v ∈ u8s l, v.oneCell' = true := by
  intro v hv; unfold u8s at hv; obtain ⟨c, _, rfl⟩ := List.mem_map.1 hv; rfl

set_option maxRecDepth 100000 in
set_option maxHeartbeats 400000 in
/-- With data left, into a buffer that has room. -/
theorem read_data (br bb db L : Nat) (txt : List UInt8) (hLt : L = txt.length) (cap : Nat) (pr : Int) (cs : List Value) (w : World) (hL : L ≤ 4096) (h0 : 0 < L)
    (hb : Blk w br 296 [.slice (some ⟨db, 0, none⟩) L cap, .int .i64 0, .int .i64 pr])
    (hbb : Blk w bb 5 cs) (hlen : 4096 = cs.length) (hd : ∀ j c, txt[j]? = some c → w.cell? ⟨db, j, none⟩ = some (.int .u8 c.toNat)) (_hcap : L ≤ cap) (hne : db ≠ br) (_hdl : db < w.heap.size) :
    Calls Tryz.prog 242 #[.pointer (some ⟨br, 0, none⟩), .slice (some ⟨bb, 0, none⟩) 4096 4096] w fun e w' => e = .returned (.tuple #[.int .i64 L, .nilIface]) ∧
      Blk w' br 296 [.slice (some ⟨db, 0, none⟩) L cap, .int .i64 L, .int .i64 (-1)] ∧ Blk w' bb 5 (splice cs 0 (u8s txt)) ∧ Ch [br, bb] w w' := by
  have hc := hb.cells
  have hf := hb.frees
  have hD := Lib.hid hd
  have hbr : br ≠ bb := hb.ne hbb (by decide)
  have HL := Lib.hid hLt
  have Hlen := Lib.hid hlen
  have HB := Lib.hid hb
  have HBB := Lib.hid hbb
  clear hd hLt hlen hb hbb
  go_enter Tryz.func242, Tryz.ntmps242
  go_wp2
  go_quiet (fail)
  go_wp2
  refine wp_gen (fun W => Blk W br 296 [.slice (some ⟨db, 0, none⟩) L cap, .int .i64 0, .int .i64 (-1)] ∧ Blk W bb 5 cs ∧ (∀ j c, txt[j]? = some c → W.cell? ⟨db, j, none⟩ = some (.int .u8 c.toNat)) ∧ Ch [br] w W)
    ⟨(HB.out.drewN _).set 2 _, (HBB.out.drewN _).setCell hbr.symm _, fun j c h => by go_simp; exact hD.out j c h, ((Ch.refl _ _).drewN _).set (by simp) _⟩ ?_
  rintro W ⟨HB, HBB, HD, HC⟩
  have hc := HB.cells
  have hf := HB.frees
  replace HB := Lib.hid HB
  replace HBB := Lib.hid HBB
  replace HD := Lib.hid HD
  replace HC := Lib.hid HC
  go_still_tail 10, (by kernel_rfl)
  change wpList _ _ _ _ _ W.drew
  go_wp2_with (with_reducible refine wpList_copy_blk rfl (.tmp 20) (.tmp 29) 78 78 rfl 5 Tryz.underlying78 (by kernel_rfl) (some ⟨bb, 0, none⟩) (some ⟨db, 0, none⟩) 4096 4096 L cap rfl rfl bb 0 cs 5 HBB.out.drew (u8s txt) ?hn ?hp ?hfit (u8s_one _) ?_)
  case hn => rw [u8s_length, ← HL.out]; exact (Nat.min_eq_left hL).symm
  case hp => exact fun _ j v hv => by obtain ⟨c, h1, rfl⟩ := u8s_get hv; exact HD.out j c h1
  case hfit => rw [u8s_length, ← HL.out, ← Hlen.out]; omega
  intro W2 HB2 HC2
  rw [u8s_length, ← HL.out]
  have HBr := Lib.hid (HB.out.drew.ch HC2 (by simp [hbr]))
  have hc2 := HBr.out.cells
  have hf2 := HBr.out.frees
  clear hc hf
  go_wp2
  go_ret2
  exact ⟨rfl, HBr.out.set 1 _, HB2.out.setCell hbr.symm _, (HC.out.drew.join HC2 (by simp) (by simp)).set (by simp) _⟩
end Go.Proofs.YtfnncdngfggcjaaGreatDoor

namespace Go.Proofs.YtfnncdngfggcjaaGreatDoor
open Go.RowKit

/-- The reader's own cells. -/
def rdCells (bb br : Nat) (r w : Int) (err : Value) (lb ls : Int) : List Value :=
  [.slice (some ⟨bb, 0, none⟩) 4096 4096, .iface 179 (.agg #[.iface 293 (.pointer (some ⟨br, 0, none⟩))]), .int .i64 r, .int .i64 w, err, .int .i64 lb, .int .i64 ls]

/-- What 'Read' of the reader's source is: bytes.Reader.Read. -/
theorem m_read (br : Nat) (w : World) : (method 401 179 (.agg #[.iface 293 (.pointer (some ⟨br, 0, none⟩))]) "Read").run Tryz.prog w = .ok (242, .pointer (some ⟨br, 0, none⟩)) w := by kernel_rfl

set_option maxRecDepth 100000 in
set_option maxHeartbeats 400000 in
/-- At the end of the data, nothing to slide. -/
theorem fill_eof0 (rb bb br : Nat) (dv : Option Addr) (L cap wr : Nat) (pr lb ls : Int) (err : Value) (ea : Addr) (w : World) (hw : wr < 4096)
    (hb : Blk w br 296 [.slice dv L cap, .int .i64 L, .int .i64 pr]) (he : w.cell? ⟨6, 0, none⟩ = some (.iface 138 (.pointer (some ea))))
    (hr : Blk w rb 231 (rdCells bb br 0 wr err lb ls)) :
    Calls Tryz.prog 155 #[.pointer (some ⟨rb, 0, none⟩)] w fun e w' => e = .returned (.tuple #[]) ∧ Blk w' rb 231 (rdCells bb br 0 wr (.iface 138 (.pointer (some ea))) lb ls) ∧ Ch [rb] w w' := by
  have hc := hr.cells
  have hf := hr.frees
  simp only [rdCells] at hc
  have HB := Lib.hid hb
  have HR := Lib.hid hr
  clear hb hr
  have hm := m_read br
  have hwi : (wr : Int) ≤ 4096 := by omega
  have h4 : ¬ 4096 = wr := by omega
  go_enter Tryz.func155, Tryz.ntmps155
  go_wp2
  go_quiet (fail)
  go_wp2
  refine wp_loop_rounds 1 ?_
  rw [rounds_succ]
  go_wp2
  go_quiet ((go_at_call 242; exact quiet_of2 (read_eof br dv L cap pr _ _ _ (HB.out.drewN _) (by simpa using he))))
  go_wp2
  refine bodyPost_ret (results_none rfl _ _ _) rfl ⟨rfl, ?_, ?_⟩
  · exact ((HR.out.drewN _).set 3 _).set 4 _
  · exact (((Ch.refl _ _).drewN _).set (by simp) _).set (by simp) _

set_option maxRecDepth 100000 in
set_option maxHeartbeats 400000 in
/-- At the end of the data, with nothing left in the buffer. -/
theorem fill_eof1 (rb bb br : Nat) (dv : Option Addr) (L cap k : Nat) (pr lb ls : Int) (err : Value) (ea : Addr) (cs : List Value) (w : World) (_hL : L ≤ 4096) (hk0 : 0 < k) (hk : k ≤ 4096)
    (hb : Blk w br 296 [.slice dv L cap, .int .i64 L, .int .i64 pr]) (he : w.cell? ⟨6, 0, none⟩ = some (.iface 138 (.pointer (some ea)))) (h6 : 6 ≠ rb) (_h6b : 6 ≠ bb)
    (hr : Blk w rb 231 (rdCells bb br k k err lb ls)) (hbb : Blk w bb 5 cs) :
    Calls Tryz.prog 155 #[.pointer (some ⟨rb, 0, none⟩)] w fun e w' => e = .returned (.tuple #[]) ∧ Blk w' rb 231 (rdCells bb br 0 0 (.iface 138 (.pointer (some ea))) lb ls) ∧ Ch [rb] w w' := by
  have hc := hr.cells
  have hf := hr.frees
  simp only [rdCells] at hc
  have HB := Lib.hid hb
  have HR := Lib.hid hr
  have hrb : rb ≠ bb := hr.ne hbb (by decide)
  have hrr : rb ≠ br := hr.ne hb (by decide)
  have HBB := Lib.hid hbb
  clear hb hr hbb
  have hm := m_read br
  have hki : (k : Int) ≤ 4096 := by omega
  by_cases h4 : 4096 = k
  all_goals
    try subst h4
    go_enter Tryz.func155, Tryz.ntmps155
    go_wp2
    go_still_tail 17, (by kernel_rfl)
    change wpList _ _ _ _ _ w.drew
    go_wp2_with (with_reducible refine wpList_copy_nothing rfl (.tmp 13) (.tmp 26) 78 78 rfl 5 Tryz.underlying78 (by kernel_rfl) _ _ _ _ _ _ rfl rfl (by simp) ?_)
    refine wp_gen (fun W => Dr w W) (Dr.refl _).drew ?_
    intro W hW
    have hc1 := (HR.out.dr hW).cells
    simp only [rdCells] at hc1
    have hf1 := (HR.out.dr hW).frees
    have HW := Lib.hid hW
    clear hW hc hf
    go_still_tail 9, (by kernel_rfl)
    change wpList _ _ _ _ _ W.drew
    go_wp2
    refine wp_gen (fun V => Blk V rb 231 (rdCells bb br 0 0 err lb ls) ∧ Ch [rb] w V) ⟨((HR.out.dr HW.out).set 3 _).set 2 _, (((HW.out.ch [rb]).set (by simp) _).set (by simp) _).drew⟩ ?_
    rintro V ⟨hV, hV2⟩
    have hc2 := hV.cells
    simp only [rdCells] at hc2
    have hf2 := hV.frees
    have HB2 := Lib.hid (HB.out.ch hV2 (by simp [hrr.symm]))
    have he2 : V.cell? ⟨6, 0, none⟩ = some (.iface 138 (.pointer (some ea))) := (hV2.cell (World.block_lt_of_cell? _ _ he) (by simp [h6])).trans he
    have HV := Lib.hid hV
    have HV2 := Lib.hid hV2
    clear hV hV2 hc1 hf1 he
    go_quiet (fail)
    go_wp2
    refine wp_loop_rounds 1 ?_
    rw [rounds_succ]
    go_wp2
    go_quiet ((go_at_call 242; exact quiet_of2 (read_eof br dv L cap pr _ _ _ (HB2.out.drewN _) (by simpa using he2))))
    go_wp2
    refine bodyPost_ret (results_none rfl _ _ _) rfl ⟨rfl, ?_, ?_⟩
    · exact ((HV.out.drewN _).set 3 _).set 4 _
    · exact ((HV2.out.drewN _).set (by simp) _).set (by simp) _
end Go.Proofs.YtfnncdngfggcjaaGreatDoor

namespace Go.Proofs.YtfnncdngfggcjaaGreatDoor
open Go.RowKit

set_option maxRecDepth 100000 in
set_option maxHeartbeats 400000 in
/-- The first one: all the data come into the buffer. -/
theorem fill_data (rb bb br db L : Nat) (txt : List UInt8) (hLt : L = txt.length) (cap : Nat) (pr lb ls : Int) (err : Value) (cs : List Value) (w : World) (hL : L ≤ 4096) (h0 : 0 < L)
    (hb : Blk w br 296 [.slice (some ⟨db, 0, none⟩) L cap, .int .i64 0, .int .i64 pr])
    (hbb : Blk w bb 5 cs) (hlen : 4096 = cs.length) (hd : ∀ j c, txt[j]? = some c → w.cell? ⟨db, j, none⟩ = some (.int .u8 c.toNat)) (hcap : L ≤ cap) (hne : db ≠ br) (hdl : db < w.heap.size)
    (hr : Blk w rb 231 (rdCells bb br 0 0 err lb ls)) (_hdr : db ≠ rb) :
    Calls Tryz.prog 155 #[.pointer (some ⟨rb, 0, none⟩)] w fun e w' => e = .returned (.tuple #[]) ∧ Blk w' rb 231 (rdCells bb br 0 L err lb ls) ∧
      Blk w' br 296 [.slice (some ⟨db, 0, none⟩) L cap, .int .i64 L, .int .i64 (-1)] ∧ Blk w' bb 5 (splice cs 0 (u8s txt)) ∧ Ch [rb, br, bb] w w' := by
  have hc := hr.cells
  have hf := hr.frees
  simp only [rdCells] at hc
  have hrb : rb ≠ bb := hr.ne hbb (by decide)
  have hrr : rb ≠ br := hr.ne hb (by decide)
  have HL := Lib.hid hLt
  have HB := Lib.hid hb
  have HR := Lib.hid hr
  have HBB := Lib.hid hbb
  have HD := Lib.hid hd
  have Hlen := Lib.hid hlen
  clear hb hr hbb hd hLt hlen
  have hm := m_read br
  go_enter Tryz.func155, Tryz.ntmps155
  go_wp2
  go_quiet (fail)
  go_wp2
  refine wp_loop_rounds 1 ?_
  rw [rounds_succ]
  go_wp2
  refine wp_gen (fun W => Dr w W) ((Dr.refl _).drewN _) ?_
  intro W hW
  have hc1 := (HR.out.dr hW).cells
  simp only [rdCells] at hc1
  have hf1 := (HR.out.dr hW).frees
  have HW := Lib.hid hW
  have HDW : Hid (∀ j c, txt[j]? = some c → W.cell? ⟨db, j, none⟩ = some (.int .u8 c.toNat)) := fun j c h => (hW.cell _).trans (HD.out j c h)
  have hdlW : db < W.heap.size := by rw [hW.heap]; exact hdl
  clear hW hc hf
  go_region_held3 (fun w' => ∀ o, w'.cell? ⟨rb, o, none⟩ = [Value.slice (some ⟨bb, 0, none⟩) 4096 4096, .iface 179 (.agg #[.iface 293 (.pointer (some ⟨br, 0, none⟩))]), .int .i64 0, .int .i64 0, err, .int .i64 lb, .int .i64 ls][o]?)
    (first
      | go_keep
      | (intro o; exact (((HR.out.dr HW.out).drew.ch h3 (by simp [hrr, hrb])).cells o)))
    ((go_at_call 242; refine (read_data br bb db L txt HL.out cap pr cs _ hL h0 ((HB.out.dr HW.out).drew) ((HBB.out.dr HW.out).drew) Hlen.out HDW.out hcap hne hdlW).mono ?_; rintro e w2 ⟨rfl, h1, h2, h3⟩))
  have HR2 := Lib.hid ((HR.out.dr HW.out).drew.ch h3 (by simp [hrr, hrb]))
  have hc2 := HR2.out.cells
  simp only [rdCells] at hc2
  have hf2 := HR2.out.frees
  clear hc1 hf1
  go_wp2
  refine bodyPost_ret (results_none rfl _ _ _) rfl ⟨rfl, HR2.out.set 3 _, h1.setCell hrr.symm _, h2.setCell hrb.symm _, ?_⟩
  exact ((HW.out.ch []).drew.join h3 (by simp) (by simp)).set (by simp) _
end Go.Proofs.YtfnncdngfggcjaaGreatDoor

namespace Go.Proofs.YtfnncdngfggcjaaGreatDoor
open Go.RowKit

set_option maxHeartbeats 400000 in
theorem readErr_any (rb bb br : Nat) (r wr lb ls : Int) (err : Value) (w : World) (hr : Blk w rb 231 (rdCells bb br r wr err lb ls)) :
    Calls Tryz.prog 156 #[.pointer (some ⟨rb, 0, none⟩)] w fun e w' => e = .returned err ∧ Blk w' rb 231 (rdCells bb br r wr .nilIface lb ls) ∧ Ch [rb] w w' := by
  have hc := hr.cells
  have hf := hr.frees
  simp only [rdCells] at hc
  have HR := Lib.hid hr
  clear hr
  go_enter Tryz.func156, Tryz.ntmps156
  go_wp2
  go_ret
  exact ⟨rfl, HR.out.set 4 _, (Ch.refl _ _).set (by simp) _⟩

set_option maxRecDepth 100000 in
set_option maxHeartbeats 1000000 in
/-- An empty text. -/
theorem peek_empty (rb bb br : Nat) (dv : Option Addr) (cap : Nat) (pr lb ls : Int) (ea : Addr) (w : World)
    (hb : Blk w br 296 [.slice dv 0 cap, .int .i64 0, .int .i64 pr]) (he : w.cell? ⟨6, 0, none⟩ = some (.iface 138 (.pointer (some ea)))) (h6 : 6 ≠ rb)
    (hr : Blk w rb 231 (rdCells bb br 0 0 .nilIface lb ls)) (hne : rb ≠ br) :
    Calls Tryz.prog 133 #[.pointer (some ⟨rb, 0, none⟩), .int .i64 2] w fun e w' => e = .returned (.tuple #[.slice (some ⟨bb, 0, none⟩) 0 4096, .iface 138 (.pointer (some ea))]) ∧
      Blk w' rb 231 (rdCells bb br 0 0 .nilIface (-1) (-1)) ∧ Ch [rb] w w' := by
  have hc := hr.cells
  have hf := hr.frees
  simp only [rdCells] at hc
  have HB := Lib.hid hb
  have HR := Lib.hid hr
  have HE := Lib.hid he
  clear hb hr he
  go_enter Tryz.func133, Tryz.ntmps133
  go_wp2
  refine wp_gen (fun V => Blk V rb 231 (rdCells bb br 0 0 .nilIface (-1) (-1)) ∧ Ch [rb] w V) ⟨(HR.out.set 5 _).set 6 _, ((Ch.refl [rb] w).set (by simp) _).set (by simp) _⟩ ?_
  rintro V ⟨hV, hV2⟩
  have hcV := hV.cells
  simp only [rdCells] at hcV
  have HV := Lib.hid hV
  have HV2 := Lib.hid hV2
  have HB2 := Lib.hid (HB.out.ch hV2 (by simp [hne.symm]))
  have HE2 := Lib.hid ((hV2.cell (World.block_lt_of_cell? _ _ HE.out) (by simp [h6])).trans HE.out)
  clear hV hV2 hc hf
  refine wp_loop_rounds 2 ?_
  rw [rounds_succ]
  go_wp2
  go_quiet (fail)
  go_wp2_with (go_at_call 155; refine (fill_eof0 rb bb br dv 0 cap 0 pr (-1) (-1) .nilIface ea _ (by omega) (HB2.out.drewN _) (by simpa using HE2.out) (HV.out.drewN _)).mono ?_; rintro e W ⟨rfl, hW, hW2⟩)
  have hcW := hW.cells
  have hfW := hW.frees
  simp only [rdCells] at hcW
  have HW := Lib.hid hW
  have HW2 := Lib.hid hW2
  clear hW hW2 hcV
  rw [rounds_succ]
  go_wp2
  go_quiet (fail)
  go_wp2
  go_quiet (fail)
  go_wp2_with (go_at_call 156; refine (readErr_any rb bb br 0 0 (-1) (-1) _ _ (HW.out.drewN _)).mono ?_; rintro e U ⟨rfl, hU, hU2⟩)
  have hcU := hU.cells
  simp only [rdCells] at hcU
  have HU := Lib.hid hU
  have HU2 := Lib.hid hU2
  clear hU hU2 hcW hfW
  go_quiet (fail)
  go_wp2
  go_ret2
  exact ⟨rfl, HU.out.drewN _, ((((HV2.out.drewN _).trans HW2.out (by simp)).drewN _).trans HU2.out (by simp)).drewN _⟩

set_option maxRecDepth 100000 in
set_option maxHeartbeats 1000000 in
/-- A text of two bytes or more. -/
theorem peek_data (rb bb br db L : Nat) (txt : List UInt8) (hLt : L = txt.length) (cap : Nat) (pr lb ls : Int) (cs : List Value) (w : World) (hL : L ≤ 4096) (h0 : 2 ≤ L)
    (hb : Blk w br 296 [.slice (some ⟨db, 0, none⟩) L cap, .int .i64 0, .int .i64 pr])
    (hbb : Blk w bb 5 cs) (hlen : 4096 = cs.length) (hd : ∀ j c, txt[j]? = some c → w.cell? ⟨db, j, none⟩ = some (.int .u8 c.toNat)) (hcap : L ≤ cap) (hne : db ≠ br) (hdl : db < w.heap.size)
    (hr : Blk w rb 231 (rdCells bb br 0 0 .nilIface lb ls)) (hdr : db ≠ rb) :
    Calls Tryz.prog 133 #[.pointer (some ⟨rb, 0, none⟩), .int .i64 2] w fun e w' => e = .returned (.tuple #[.slice (some ⟨bb, 0, none⟩) 2 4096, .nilIface]) ∧ Blk w' rb 231 (rdCells bb br 0 L .nilIface (-1) (-1)) ∧
      Blk w' br 296 [.slice (some ⟨db, 0, none⟩) L cap, .int .i64 L, .int .i64 (-1)] ∧ Blk w' bb 5 (splice cs 0 (u8s txt)) ∧ Ch [rb, br, bb] w w' := by
  have hc := hr.cells
  have hf := hr.frees
  simp only [rdCells] at hc
  have hrb : rb ≠ bb := hr.ne hbb (by decide)
  have hrr : rb ≠ br := hr.ne hb (by decide)
  have HB := Lib.hid hb
  have HR := Lib.hid hr
  have HBB := Lib.hid hbb
  have HD := Lib.hid hd
  have HL := Lib.hid hLt
  have Hlen := Lib.hid hlen
  have hLi : (2 : Int) ≤ (L : Int) := by omega
  have hd2 : decide ((L : Int) < 2) = false := by simp; omega
  clear hb hr hbb hd hLt hlen
  go_enter Tryz.func133, Tryz.ntmps133
  go_wp2
  refine wp_gen (fun V => Blk V rb 231 (rdCells bb br 0 0 .nilIface (-1) (-1)) ∧ Ch [rb] w V) ⟨(HR.out.set 5 _).set 6 _, ((Ch.refl [rb] w).set (by simp) _).set (by simp) _⟩ ?_
  rintro V ⟨hV, hV2⟩
  have hcV := hV.cells
  simp only [rdCells] at hcV
  have HV := Lib.hid hV
  have HV2 := Lib.hid hV2
  have HB2 := Lib.hid (HB.out.ch hV2 (by simp [hrr.symm]))
  have HBB2 := Lib.hid (HBB.out.ch hV2 (by simp [hrb.symm]))
  have HD2 : Hid (∀ j c, txt[j]? = some c → V.cell? ⟨db, j, none⟩ = some (.int .u8 c.toNat)) := fun j c h => (hV2.cell hdl (by simp [hdr])).trans (HD.out j c h)
  have hdl2 : db < V.heap.size := Nat.lt_of_lt_of_le hdl hV2.size
  clear hV hV2 hc hf
  refine wp_loop_rounds 2 ?_
  rw [rounds_succ]
  go_wp2
  go_quiet (fail)
  go_wp2_with (go_at_call 155; refine (fill_data rb bb br db L txt HL.out cap pr (-1) (-1) .nilIface cs _ hL (by omega) (HB2.out.drewN _) (HBB2.out.drewN _) Hlen.out HD2.out hcap hne hdl2 (HV.out.drewN _) hdr).mono ?_; rintro e W ⟨rfl, hW, hW1, hW3, hW2⟩)
  have hcW := hW.cells
  have hfW := hW.frees
  simp only [rdCells] at hcW
  have HW := Lib.hid hW
  have HW1 := Lib.hid hW1
  have HW3 := Lib.hid hW3
  have HW2 := Lib.hid hW2
  clear hW hW1 hW2 hW3 hcV
  rw [rounds_succ]
  go_wp2
  go_quiet (fail)
  go_wp2
  go_quiet (fail)
  go_wp2
  go_quiet (fail)
  go_wp2
  go_ret2
  exact ⟨rfl, HW.out, HW1.out, HW3.out, (((HV2.out.drewN _).join (U := [rb, br, bb]) HW2.out (by simp) (by simp)).drewN _).drewN _⟩
end Go.Proofs.YtfnncdngfggcjaaGreatDoor

namespace Go.Proofs.YtfnncdngfggcjaaGreatDoor
open Go.RowKit

set_option maxRecDepth 1000000 in
set_option maxHeartbeats 2000000 in
theorem indexByte_any (a : Addr) (n c : Nat) (xs : List Int) (cv : Int) (w : World) (hx : xs.length = n) (hc : ∀ i, i < n → w.cell? (a.add i) = some (.int .u8 (xs.getD i 0))) :
    Calls Tryz.prog 199 #[.slice (some a) n c, .int .u8 cv] w fun e w' => e = .returned (.int .i64 (Lib.indexByte (Lib.bytesOf xs) cv.toNat.toUInt8)) ∧ w = w' := by
  go_enter Tryz.func199, Tryz.ntmps199
  go_wp2
  rw [run_callFunc_extern Tryz.func207 (by kernel_rfl) (by kernel_rfl) (by kernel_rfl) (e := Extern.BytealgIndexByte.indexByte) (by kernel_rfl), Lib.run_indexByteAt w a n c xs hx hc cv]
  simp only [Result.andThen]
  rw [Oper.upon_value]
  go_wp2
  go_ret
  exact ⟨rfl, rfl⟩

def intsOf (l : List UInt8) : List Int := l.map fun c => (c.toNat : Int)
theorem bytesOf_intsOf (l : List UInt8) : Lib.bytesOf (intsOf l) = l := by
  unfold Lib.bytesOf intsOf
  rw [List.map_map]
  conv => rhs; rw [← List.map_id l]
  refine List.map_congr_left fun c _ => ?_
  simp

theorem indexByte_line (l rest : List UInt8) (c : UInt8) (h : c ∉ l) : Lib.indexByte (l ++ c :: rest) c = l.length := by
  induction l with
  | nil => simp [Lib.indexByte]
  | cons b l ih =>
    have h1 : (b == c) = false := beq_eq_false_iff_ne.2 (fun e => h (by simp [e]))
    have h2 := ih (fun hm => h (by simp [hm]))
    simp only [List.cons_append, Lib.indexByte, h1, h2]
    have : ((l.length : Int) == -1) = false := beq_eq_false_iff_ne.2 (by omega)
    simp [this]

/-- Within the buffer the newline stands n places on. -/
theorem indexByte_in (bb r n m c : Nat) (txt line rest : List UInt8) (w : World) (hbuf : ∀ i c, txt[i]? = some c → w.cell? ⟨bb, i, none⟩ = some (.int .u8 c.toNat))
    (hm : m = txt.length - r) (hl : txt.drop r = line ++ 10 :: rest) (hn : n = line.length) (hno : 10 ∉ line) :
    Calls Tryz.prog 199 #[.slice (some ⟨bb, r, none⟩) m c, .int .u8 10] w fun e w' => e = .returned (.int .i64 n) ∧ Dr w w' := by
  have hx : (intsOf (txt.drop r)).length = m := by simp [intsOf, hm]
  refine (indexByte_any ⟨bb, r, none⟩ m c (intsOf (txt.drop r)) 10 w hx ?_).mono ?_
  · intro i hi
    have hi' : i < (txt.drop r).length := by simp; omega
    have h1 : txt[r + i]? = some ((txt.drop r)[i]) := by rw [← List.getElem?_drop, List.getElem?_eq_getElem hi']
    have h2 := hbuf _ _ h1
    have e1 : (⟨bb, r, none⟩ : Addr).add i = ⟨bb, r + i, none⟩ := by unfold Addr.add; split <;> simp_all
    rw [e1, h2]
    have e2 : (intsOf (txt.drop r)).getD i 0 = (((txt.drop r)[i]).toNat : Int) := by
      rw [List.getD_eq_getElem?_getD]; unfold intsOf; rw [List.getElem?_map, List.getElem?_eq_getElem hi']; rfl
    rw [e2]
  · rintro e w' ⟨rfl, rfl⟩
    refine ⟨?_, Dr.refl _⟩
    rw [bytesOf_intsOf, hl]
    have := indexByte_line line rest 10 hno
    rw [hn, ← this]; rfl

theorem indexByte_empty (A : Addr) (c : Nat) (w : World) : Calls Tryz.prog 199 #[.slice (some A) 0 c, .int .u8 10] w fun e w' => e = .returned (.int .i64 (-1)) ∧ Dr w w' :=
  (indexByte_any A 0 c [] 10 w rfl (fun _i hi => absurd hi (Nat.not_lt_zero _))).mono fun _ _ ⟨h1, h2⟩ => ⟨h1, h2 ▸ Dr.refl _⟩

set_option maxRecDepth 100000 in
set_option maxHeartbeats 1000000 in
/-- A whole line stands in the buffer. -/
theorem readSlice_line (rb bb br r n L : Nat) (txt line rest : List UInt8) (lb ls : Int) (w : World) (hLt : L = txt.length) (hL : L ≤ 4096)
    (hbuf : ∀ i c, txt[i]? = some c → w.cell? ⟨bb, i, none⟩ = some (.int .u8 c.toNat)) (hl : txt.drop r = line ++ 10 :: rest) (hn : n = line.length) (hno : 10 ∉ line)
    (hr : Blk w rb 231 (rdCells bb br r L .nilIface lb ls)) (hne : rb ≠ bb) :
    Calls Tryz.prog 187 #[.pointer (some ⟨rb, 0, none⟩), .int .u8 10] w fun e w' => e = .returned (.tuple #[.slice (some ⟨bb, r, none⟩) (n + 1) (4096 - r), .nilIface]) ∧
      Blk w' rb 231 (rdCells bb br (r + n + 1 : Nat) L .nilIface 10 (-1)) ∧ Ch [rb] w w' := by
  have hc := hr.cells
  have hf := hr.frees
  simp only [rdCells] at hc
  have hlen : L - r = n + 1 + rest.length := by rw [hLt, ← List.length_drop, hl]; simp; omega
  have hrL : r + n + 1 ≤ L := by omega
  have h10 : w.cell? ⟨bb, r + n, none⟩ = some (.int .u8 10) := by
    have : txt[r + n]? = some 10 := by rw [← List.getElem?_drop, hl, hn]; simp
    exact hbuf _ _ this
  have HI := Lib.hid (fun (c : Nat) (V : World) (hV : Dr w V) => indexByte_in bb r n (L - r) c txt line rest V (fun i c h => (hV.cell _).trans (hbuf i c h)) (by rw [hLt]) hl hn hno)
  have hr4 : ¬ 4096 = r := by omega
  have hri : (r : Int) ≤ (L : Int) := by omega
  have hLi : (L : Int) ≤ 4096 := by omega
  have hsub : r + n + 1 - r = n + 1 := by omega
  have HR := Lib.hid hr
  clear hr hLt hl hn hbuf hlen
  go_enter Tryz.func187, Tryz.ntmps187
  go_wp2
  refine wp_loop_rounds 1 ?_
  rw [rounds_succ]
  go_wp2
  go_quiet ((go_at_call 199; exact quiet_of1 (HI.out _ _ ((Dr.refl _).drewN _))))
  go_wp2
  go_quiet (fail)
  go_wp2
  go_ret2
  refine ⟨by rw [show n + 1 = r + n + 1 - r from hsub.symm]; rfl, ?_, (((((Ch.refl [rb] w).drewN _).set (by simp) _).set (by simp) _).set (by simp) _)⟩
  have := ((HR.out.set 2 (.int .i64 (r + (n + 1)))).set 5 (.int .i64 10)).set 6 (.int .i64 (-1))
  simp only [rdCells] at this ⊢
  rw [show ((r + n + 1 : Nat) : Int) = (r : Int) + ((n : Int) + 1) by omega]
  exact this

theorem readErr_eof (rb bb br : Nat) (r wr lb ls : Int) (ea : Addr) (w : World) (hr : Blk w rb 231 (rdCells bb br r wr (.iface 138 (.pointer (some ea))) lb ls)) :
    Calls Tryz.prog 156 #[.pointer (some ⟨rb, 0, none⟩)] w fun e w' => e = .returned (.iface 138 (.pointer (some ea))) ∧ Blk w' rb 231 (rdCells bb br r wr .nilIface lb ls) ∧ Ch [rb] w w' := readErr_any _ _ _ _ _ _ _ _ _ hr

set_option maxHeartbeats 400000 in
theorem buffered_any (rb bb br : Nat) (r wr : Nat) (lb ls : Int) (err : Value) (w : World) (hr : Blk w rb 231 (rdCells bb br r wr err lb ls)) (h1 : r ≤ wr) (h2 : wr ≤ 4096) :
    Calls Tryz.prog 172 #[.pointer (some ⟨rb, 0, none⟩)] w fun e w' => e = .returned (.int .i64 ((wr : Int) - r)) ∧ Dr w w' := by
  have hc := hr.cells
  simp only [rdCells] at hc
  have e1 : IntKind.i64.wrap ((wr : Int) - r) = (wr : Int) - r := IntWalk.i64_in _ (by omega)
  clear hr
  go_enter Tryz.func172, Tryz.ntmps172
  go_wp2
  go_quiet (fail)
  go_wp2
  go_ret
  exact ⟨rfl, (Dr.refl _).drewN _⟩

set_option maxRecDepth 100000 in
set_option maxHeartbeats 2000000 in
/-- All lines are read: the end of the text. -/
theorem readSlice_eof (rb bb br L : Nat) (dv : Option Addr) (cap : Nat) (pr lb ls : Int) (ea : Addr) (cs : List Value) (w : World) (hL : L ≤ 4096)
    (hb : Blk w br 296 [.slice dv L cap, .int .i64 L, .int .i64 pr]) (he : w.cell? ⟨6, 0, none⟩ = some (.iface 138 (.pointer (some ea)))) (h6 : 6 ≠ rb) (h6b : 6 ≠ bb)
    (hr : Blk w rb 231 (rdCells bb br L L .nilIface lb ls)) (hbb : Blk w bb 5 cs) :
    Calls Tryz.prog 187 #[.pointer (some ⟨rb, 0, none⟩), .int .u8 10] w fun e w' => e = .returned (.tuple #[.slice (some ⟨bb, 0, none⟩) 0 4096, .iface 138 (.pointer (some ea))]) ∧
      Blk w' rb 231 (rdCells bb br 0 0 .nilIface lb ls) ∧ Ch [rb] w w' := by
  have hc := hr.cells
  have hf := hr.frees
  simp only [rdCells] at hc
  have hrr : rb ≠ br := hr.ne hb (by decide)
  have hfill : ∀ V, Dr w V → Calls Tryz.prog 155 #[.pointer (some ⟨rb, 0, none⟩)] V fun e w' => e = .returned (.tuple #[]) ∧ Blk w' rb 231 (rdCells bb br 0 0 (.iface 138 (.pointer (some ea))) lb ls) ∧ Ch [rb] V w' := by
    intro V hV
    rcases Nat.eq_zero_or_pos L with h0 | h0
    · subst h0
      exact fill_eof0 rb bb br dv 0 cap 0 pr lb ls _ ea V (by omega) (hb.dr hV) ((hV.cell _).trans he) (hr.dr hV)
    · exact fill_eof1 rb bb br dv L cap L pr lb ls _ ea cs V hL h0 hL (hb.dr hV) ((hV.cell _).trans he) h6 h6b (hr.dr hV) (hbb.dr hV)
  have HF := Lib.hid hfill
  have HR := Lib.hid hr
  clear hr hb hbb he hfill
  have hLi : (L : Int) ≤ 4096 := by omega
  by_cases h4 : 4096 = L
  all_goals
    try subst h4
    go_enter Tryz.func187, Tryz.ntmps187
    go_wp2
    refine wp_loop_rounds 2 ?_
    rw [rounds_succ]
    go_wp2
    go_quiet ((go_at_call 199; exact quiet_of1 (indexByte_empty _ _ _)))
    go_wp2
    go_quiet ((go_at_call 172; exact quiet_of2 (buffered_any rb bb br _ _ lb ls _ _ (HR.out.drewN _) (Nat.le_refl _) hL)))
    go_wp2
    go_quiet (fail)
    go_wp2_with (go_at_call 155; refine (HF.out _ (by repeat (first | exact Dr.refl _ | apply Dr.drewN | apply Dr.drew))).mono ?_; rintro e W ⟨rfl, hW, hW2⟩)
    have hcW := hW.cells
    have hfW := hW.frees
    simp only [rdCells] at hcW
    have HW := Lib.hid hW
    have HW2 := Lib.hid hW2
    clear hW hW2 hc hf
    rw [rounds_succ]
    go_wp2
    go_quiet ((go_at_call 199; exact quiet_of1 (indexByte_empty _ _ _)))
    go_wp2
    go_quiet (fail)
    go_wp2_with (go_at_call 156; refine (readErr_eof rb bb br 0 0 lb ls ea _ (by exact HW.out.set 2 _)).mono ?_; rintro e U ⟨rfl, hU, hU2⟩)
    go_ret2
    exact ⟨rfl, hU, ((((((Ch.refl [rb] w).drewN _).trans HW2.out (by simp)).drewN _).set (by simp) _).trans hU2 (by simp))⟩
end Go.Proofs.YtfnncdngfggcjaaGreatDoor

namespace Go.Proofs.YtfnncdngfggcjaaGreatDoor
open Go.RowKit

theorem results_tmp4 {fn : Func} {t u v x : Tmp} (h : fn.results = #[.tmp t, .tmp u, .tmp v, .tmp x]) (tmps : Array Value) (P : Program) (w : World) :
    (results fn tmps).run P w = .ok (.tuple #[tmps.getD t undef, tmps.getD u undef, tmps.getD v undef, tmps.getD x undef]) w := by
  simp [results, h]

/-- The sentinels, below block B. -/
structure Glob (w : World) (B : Nat) (ea fa : Addr) : Prop where
  h6 : 6 < B
  h8 : 8 < B
  hB : B ≤ w.heap.size
  eof : w.cell? ⟨6, 0, none⟩ = some (.iface 138 (.pointer (some ea)))
  full : w.cell? ⟨8, 0, none⟩ = some (.iface 138 (.pointer (some fa)))
  ne : ea ≠ fa
  le : ea.block < B
  lf : fa.block < B
  be : ∃ c t, w.heap[ea.block]? = some (.cells c t (0, 0))
  bf : ∃ c t, w.heap[fa.block]? = some (.cells c t (0, 0))

theorem Glob.ch {w w' : World} {B : Nat} {ea fa : Addr} (g : Glob w B ea fa) {S : List Nat} (h : Ch S w w') (hS : ∀ x, x ∈ S → B ≤ x) : Glob w' B ea fa := by
  have hb : ∀ k, k < B → w'.heap[k]? = w.heap[k]? := fun k hk => h.block k (Nat.lt_of_lt_of_le hk g.hB) (fun hm => by have := hS k hm; omega)
  refine ⟨g.h6, g.h8, Nat.le_trans g.hB h.size, ?_, ?_, g.ne, g.le, g.lf, ?_, ?_⟩
  · rw [World.cell?_of_block (w := w) (hb 6 g.h6)]; exact g.eof
  · rw [World.cell?_of_block (w := w) (hb 8 g.h8)]; exact g.full
  · rw [hb _ g.le]; exact g.be
  · rw [hb _ g.lf]; exact g.bf

theorem info138m : (Tryz.prog.info? 138).map (·.comparable) = some true := by kernel_rfl
theorem info140m : (Tryz.prog.info? 140).map (·.size) = some 1 := by kernel_rfl
theorem info138 : ∃ i, Tryz.prog.info? 138 = some i ∧ i.comparable = true := Option.map_eq_some_iff.1 info138m
theorem info140 : ∃ j, Tryz.prog.info? 140 = some j ∧ j.size ≠ 0 := by
  obtain ⟨j, h, e⟩ := Option.map_eq_some_iff.1 info140m
  exact ⟨j, h, by omega⟩

theorem run_neq_sentinels {w : World} {B : Nat} {ea fa : Addr} (g : Glob w B ea fa) :
    (Go.binOp .neq 64 (.iface 138 (.pointer (some ea))) (.iface 138 (.pointer (some fa)))).run Tryz.prog w = .ok (.bool true) w := by
  obtain ⟨i, hi, hc⟩ := info138
  obtain ⟨j, hj, hs⟩ := info140
  obtain ⟨ca, ta, ha⟩ := g.be
  obtain ⟨cb, tb, hb⟩ := g.bf
  simp only [Go.binOp]
  simp [Op.equal, Op.maxDepth, run_equalIn_iface_ptr_other w 9998 Tryz.underlying64 Tryz.underlying138 hi hc hj hs g.ne ha hb]

theorem run_eql_eof (ea : Addr) (w : World) :
    (Go.binOp .eql 64 (.iface 138 (.pointer (some ea))) (.iface 138 (.pointer (some ea)))).run Tryz.prog w = .ok (.bool true) w := by
  obtain ⟨i, hi, hc⟩ := info138
  obtain ⟨j, hj, hs⟩ := info140
  exact run_eql_iface_ptr_same w ea Tryz.underlying64 Tryz.underlying138 hi hc hj

set_option maxRecDepth 100000 in
set_option maxHeartbeats 1000000 in
theorem collect_line (rb bb br r n L : Nat) (txt line rest : List UInt8) (lb ls : Int) (w : World) (hLt : L = txt.length) (hL : L ≤ 4096)
    (hbuf : ∀ i c, txt[i]? = some c → w.cell? ⟨bb, i, none⟩ = some (.int .u8 c.toNat)) (hl : txt.drop r = line ++ 10 :: rest) (hn : n = line.length) (hno : 10 ∉ line)
    (hr : Blk w rb 231 (rdCells bb br r L .nilIface lb ls)) (hne : rb ≠ bb) :
    Calls Tryz.prog 173 #[.pointer (some ⟨rb, 0, none⟩), .int .u8 10] w fun e w' => e = .returned (.tuple #[.slice none 0 0, .slice (some ⟨bb, r, none⟩) (n + 1) (4096 - r), .int .i64 (n + 1 : Nat), .nilIface]) ∧
      Blk w' rb 231 (rdCells bb br (r + n + 1 : Nat) L .nilIface 10 (-1)) ∧ Ch [rb] w w' := by
  have hlen : L - r = n + 1 + rest.length := by rw [hLt, ← List.length_drop, hl]; simp; omega
  have H := Lib.hid (readSlice_line rb bb br r n L txt line rest lb ls w hLt hL hbuf hl hn hno hr hne)
  have hn1 : (n : Int) ≤ 4096 := by omega
  clear hLt hbuf hl hn hno hr hlen
  go_enter Tryz.func173, Tryz.ntmps173
  go_wp2
  refine wp_loop_rounds 1 ?_
  rw [rounds_succ]
  go_wp2_with (go_at_call 187; refine H.out.mono ?_; rintro e W ⟨rfl, hW, hW2⟩)
  refine bodyPost_ret (results_tmp4 rfl _ _ _) rfl ⟨rfl, hW, hW2⟩

set_option maxRecDepth 100000 in
set_option maxHeartbeats 1000000 in
theorem collect_eof (rb bb br L B : Nat) (dv : Option Addr) (cap : Nat) (pr lb ls : Int) (ea fa : Addr) (cs : List Value) (w : World) (hL : L ≤ 4096)
    (hb : Blk w br 296 [.slice dv L cap, .int .i64 L, .int .i64 pr]) (g : Glob w B ea fa) (h1 : B ≤ rb) (h2 : B ≤ bb)
    (hr : Blk w rb 231 (rdCells bb br L L .nilIface lb ls)) (hbb : Blk w bb 5 cs) :
    Calls Tryz.prog 173 #[.pointer (some ⟨rb, 0, none⟩), .int .u8 10] w fun e w' => e = .returned (.tuple #[.slice none 0 0, .slice (some ⟨bb, 0, none⟩) 0 4096, .int .i64 0, .iface 138 (.pointer (some ea))]) ∧
      Blk w' rb 231 (rdCells bb br 0 0 .nilIface lb ls) ∧ Ch [rb] w w' := by
  have H := Lib.hid (readSlice_eof rb bb br L dv cap pr lb ls ea cs w hL hb g.eof (by have := g.h6; omega) (by have := g.h6; omega) hr hbb)
  have G := Lib.hid g
  clear g hb hr hbb
  go_enter Tryz.func173, Tryz.ntmps173
  go_wp2
  refine wp_loop_rounds 1 ?_
  rw [rounds_succ]
  go_wp2_with (go_at_call 187; refine H.out.mono ?_; rintro e W ⟨rfl, hW, hW2⟩; have gW := G.out.ch hW2 (by simp [h1]); have c8 := gW.full; have hneq := run_neq_sentinels gW; replace gW := Lib.hid gW)
  refine bodyPost_ret (results_tmp4 rfl _ _ _) rfl ⟨rfl, hW, hW2⟩
end Go.Proofs.YtfnncdngfggcjaaGreatDoor

namespace Go.Proofs.YtfnncdngfggcjaaGreatDoor
open Go.RowKit

theorem info5 : (Tryz.prog.info? 5).map (fun i => (i.zero, i.size, i.bytes)) = some (some (.int .u8 0), 1, 1) := by kernel_rfl

theorem madeCells_toList (z : Value) (n : Nat) : (madeCells #[z] n) = (List.replicate n z).toArray := by
  apply Array.ext
  · simp [madeCells]
  · intro i h1 h2
    simp [madeCells] at h1 h2 ⊢
    simp [Nat.mod_one]

theorem splice_all {α : Type} (L cs : List α) (h : cs.length = L.length) : splice L 0 cs = cs := by simp [splice, h]

set_option maxRecDepth 100000 in
set_option maxHeartbeats 1000000 in
theorem readBytes_line (rb bb br r n L : Nat) (txt line rest : List UInt8) (lb ls : Int) (w : World) (hLt : L = txt.length) (hL : L ≤ 4096)
    (hbuf : ∀ i c, txt[i]? = some c → w.cell? ⟨bb, i, none⟩ = some (.int .u8 c.toNat)) (hl : txt.drop r = line ++ 10 :: rest) (hn : n = line.length) (hno : 10 ∉ line)
    (hr : Blk w rb 231 (rdCells bb br r L .nilIface lb ls)) (hne : rb ≠ bb) (hbl : bb < w.heap.size) :
    Calls Tryz.prog 157 #[.pointer (some ⟨rb, 0, none⟩), .int .u8 10] w fun e w' => ∃ nb, w.heap.size ≤ nb ∧ e = .returned (.tuple #[.slice (some ⟨nb, 0, none⟩) (n + 1) (n + 1), .nilIface]) ∧
      Blk w' nb 5 (u8s (line ++ [10])) ∧ Blk w' rb 231 (rdCells bb br (r + n + 1 : Nat) L .nilIface 10 (-1)) ∧ Ch [rb] w w' := by
  have hlen : L - r = n + 1 + rest.length := by rw [hLt, ← List.length_drop, hl]; simp; omega
  have H := Lib.hid (collect_line rb bb br r n L txt line rest lb ls w hLt hL hbuf hl hn hno hr hne)
  have hn1 : (n : Int) ≤ 4096 := by omega
  have hmk := fun W => run_make_row' (P := Tryz.prog) 78 5 (.int .u8 0) 1 Tryz.underlying78 info5 rfl .i64 .i64 (n + 1) (by omega) (by omega) W
  have hcast : ((n + 1 : Nat) : Int) = (n : Int) + 1 := by omega
  simp only [hcast] at hmk
  have hlit : (u8s (line ++ [10])).length = n + 1 := by rw [u8s_length, hn]; simp
  have hsrc : ∀ j v, (u8s (line ++ [10]))[j]? = some v → w.cell? ⟨bb, r + j, none⟩ = some v := by
    intro j v hv
    obtain ⟨c, hc, rfl⟩ := u8s_get hv
    refine hbuf _ _ ?_
    rw [← List.getElem?_drop, hl, show line ++ 10 :: rest = (line ++ [10]) ++ rest by simp, List.getElem?_append_left (by have := (List.getElem?_eq_some_iff.1 hc).1; exact this)]
    exact hc
  have HS := Lib.hid hsrc
  have HLI := Lib.hid hlit
  clear hLt hbuf hl hn hno hr hlen hsrc hlit hcast
  go_enter Tryz.func157, Tryz.ntmps157
  go_wp2_with (go_at_call 173; refine H.out.mono ?_; rintro e W ⟨rfl, hW, hW2⟩; replace hW := Lib.hid hW; replace hW2 := Lib.hid hW2)
  refine wp_loop_rounds 1 ?_
  rw [rounds_succ]
  have hnb : Blk (W.alloc (.cells (madeCells #[.int .u8 0] (n + 1)) 5)) W.heap.size 5 (List.replicate (n + 1) (.int .u8 0)) := by rw [madeCells_toList]; exact Blk.new _ _ _
  have HNB := Lib.hid hnb
  clear hnb
  go_wp2_with (with_reducible refine wpList_copy_blk rfl (.tmp 40) (.tmp 41) 78 78 rfl 5 Tryz.underlying78 (by kernel_rfl) (some ⟨W.heap.size, 0, none⟩) (some ⟨bb, r, none⟩) (n + 1) (n + 1) (n + 1) (4096 - r) rfl rfl W.heap.size 0 _ 5 HNB.out (u8s (line ++ [10])) ?hn ?hp ?hfit (u8s_one _) ?_)
  case hn => rw [HLI.out]; exact (Nat.min_self _).symm
  case hp =>
    refine fun _ j v hv => ?_
    have h1 := HS.out j v hv
    have h2 := hW2.out.cell (p := ⟨bb, r + j, none⟩) hbl (by simp [hne.symm])
    have h3 := World.cell?_alloc_lt W (.cells (madeCells #[.int .u8 0] (n + 1)) 5) ⟨bb, r + j, none⟩ (Nat.lt_of_lt_of_le hbl hW2.out.size)
    rw [h3, h2, h1]
  case hfit => rw [HLI.out]; simp
  intro W3 HB3 HC3
  rw [splice_all _ _ (by rw [HLI.out]; simp)] at HB3
  go_wp2
  go_ret2
  have hnr : rb ≠ W.heap.size := Nat.ne_of_lt (hW.out.lt)
  exact ⟨W.heap.size, hW2.out.size, rfl, HB3.out, (hW.out.alloc _).ch HC3 (by simp [hnr]), (hW2.out.alloc _).trans HC3 (by simp [hW2.out.size])⟩

set_option maxRecDepth 100000 in
set_option maxHeartbeats 1000000 in
theorem readBytes_eof (rb bb br L B : Nat) (dv : Option Addr) (cap : Nat) (pr lb ls : Int) (ea fa : Addr) (cs : List Value) (w : World) (hL : L ≤ 4096)
    (hb : Blk w br 296 [.slice dv L cap, .int .i64 L, .int .i64 pr]) (g : Glob w B ea fa) (h1 : B ≤ rb) (h2 : B ≤ bb)
    (hr : Blk w rb 231 (rdCells bb br L L .nilIface lb ls)) (hbb : Blk w bb 5 cs) :
    Calls Tryz.prog 157 #[.pointer (some ⟨rb, 0, none⟩), .int .u8 10] w fun e w' => ∃ nb, e = .returned (.tuple #[.slice (some ⟨nb, 0, none⟩) 0 0, .iface 138 (.pointer (some ea))]) ∧
      Blk w' rb 231 (rdCells bb br 0 0 .nilIface lb ls) ∧ Ch [rb] w w' := by
  have H := Lib.hid (collect_eof rb bb br L B dv cap pr lb ls ea fa cs w hL hb g h1 h2 hr hbb)
  have hmk := fun W => run_make_row' (P := Tryz.prog) 78 5 (.int .u8 0) 1 Tryz.underlying78 info5 rfl .i64 .i64 0 (by omega) (by omega) W
  simp only [show ((0 : Nat) : Int) = 0 from rfl] at hmk
  clear g hb hr hbb
  go_enter Tryz.func157, Tryz.ntmps157
  go_wp2_with (go_at_call 173; refine H.out.mono ?_; rintro e W ⟨rfl, hW, hW2⟩; replace hW := Lib.hid hW; replace hW2 := Lib.hid hW2)
  refine wp_loop_rounds 1 ?_
  rw [rounds_succ]
  go_wp2_with (with_reducible refine wpList_copy_nothing rfl (.tmp 40) (.tmp 41) 78 78 rfl 5 Tryz.underlying78 (by kernel_rfl) _ _ _ _ _ _ rfl rfl (by simp) ?_)
  go_ret2
  exact ⟨_, rfl, hW.out.alloc _, hW2.out.alloc _⟩

/-- The parser's own cells. -/
def parCells (rb cb : Nat) (eof : Bool) (cnt : Int) : List Value :=
  [.pointer (some ⟨rb, 0, none⟩), .bool false, .bool false, .bool false, .bool false, .bool false, .bool false, .bool false, .int .i64 0, .bool eof, .int .i64 cnt, .pointer (some ⟨cb, 0, none⟩)]

set_option maxRecDepth 100000 in
set_option maxHeartbeats 1000000 in
theorem readUntil_line (pb cb rb bb br r n L : Nat) (cnt : Int) (eo : Bool) (txt line rest : List UInt8) (lb ls : Int) (w : World) (hLt : L = txt.length) (hL : L ≤ 4096)
    (hbuf : ∀ i c, txt[i]? = some c → w.cell? ⟨bb, i, none⟩ = some (.int .u8 c.toNat)) (hl : txt.drop r = line ++ 10 :: rest) (hn : n = line.length) (hno : 10 ∉ line)
    (hr : Blk w rb 231 (rdCells bb br r L .nilIface lb ls)) (hne : rb ≠ bb) (hbl : bb < w.heap.size) (hp : Blk w pb 206 (parCells rb cb eo cnt)) :
    Calls Tryz.prog 134 #[.pointer (some ⟨pb, 0, none⟩), .int .u8 10] w fun e w' => ∃ nb, w.heap.size ≤ nb ∧ e = .returned (.tuple #[.slice (some ⟨nb, 0, none⟩) (n + 1) (n + 1), .nilIface]) ∧
      Blk w' nb 5 (u8s (line ++ [10])) ∧ Blk w' rb 231 (rdCells bb br (r + n + 1 : Nat) L .nilIface 10 (-1)) ∧ Ch [rb] w w' := by
  have H := Lib.hid (readBytes_line rb bb br r n L txt line rest lb ls w hLt hL hbuf hl hn hno hr hne hbl)
  have hc := hp.cells
  simp only [parCells] at hc
  clear hLt hbuf hl hn hno hr hp
  go_enter Tryz.func134, Tryz.ntmps134
  go_wp2_with (go_at_call 157; refine H.out.mono ?_; rintro e W ⟨nb, hnb, rfl, hW0, hW, hW2⟩)
  go_ret2
  exact ⟨nb, hnb, rfl, hW0, hW, hW2⟩

set_option maxRecDepth 100000 in
set_option maxHeartbeats 1000000 in
theorem readUntil_eof (pb cb rb bb br L B : Nat) (cnt : Int) (dv : Option Addr) (cap : Nat) (pr lb ls : Int) (ea fa : Addr) (cs : List Value) (w : World) (hL : L ≤ 4096)
    (hb : Blk w br 296 [.slice dv L cap, .int .i64 L, .int .i64 pr]) (g : Glob w B ea fa) (h1 : B ≤ rb) (h2 : B ≤ bb)
    (hr : Blk w rb 231 (rdCells bb br L L .nilIface lb ls)) (hbb : Blk w bb 5 cs) (hp : Blk w pb 206 (parCells rb cb false cnt)) :
    Calls Tryz.prog 134 #[.pointer (some ⟨pb, 0, none⟩), .int .u8 10] w fun e w' => ∃ nb, e = .returned (.tuple #[.slice (some ⟨nb, 0, none⟩) 0 0, .nilIface]) ∧
      Blk w' rb 231 (rdCells bb br 0 0 .nilIface lb ls) ∧ Blk w' pb 206 (parCells rb cb true cnt) ∧ Ch [rb, pb] w w' := by
  have H := Lib.hid (readBytes_eof rb bb br L B dv cap pr lb ls ea fa cs w hL hb g h1 h2 hr hbb)
  have hc := hp.cells
  simp only [parCells] at hc
  have hpr : pb ≠ rb := hp.ne hr (by decide)
  have HP := Lib.hid hp
  have G := Lib.hid g
  clear g hb hr hbb hp
  go_enter Tryz.func134, Tryz.ntmps134
  go_wp2_with (go_at_call 157; refine H.out.mono ?_; rintro e W ⟨nb, rfl, hW, hW2⟩; have c6 := (G.out.ch hW2 (by simp [h1])).eof; have heq := run_eql_eof ea; have hPW := HP.out.ch hW2 (by simp [hpr]); have hcW := hPW.cells; simp only [parCells] at hcW; have hfW := hPW.frees; replace hPW := Lib.hid hPW; replace hW := Lib.hid hW; replace hW2 := Lib.hid hW2)
  go_ret2
  exact ⟨nb, rfl, hW.out.setCell hpr.symm _, hPW.out.set 9 _, (hW2.out.mono (by simp)).set (by simp) _⟩
end Go.Proofs.YtfnncdngfggcjaaGreatDoor

namespace Go.Proofs.YtfnncdngfggcjaaGreatDoor
open Go.RowKit

def zeros4096 : List Value := List.replicate 4096 (.int .u8 0)

theorem make4096 (W : World) : (Instr.makeSlice 78 (.int .i64 4096) (.int .i64 4096)).run Tryz.prog W = .ok (.slice (some ⟨W.heap.size, 0, none⟩) 4096 4096) (W.alloc (.cells zeros4096.toArray 5)) := by
  have h := run_make_row' (P := Tryz.prog) 78 5 (.int .u8 0) 1 Tryz.underlying78 info5 rfl .i64 .i64 4096 (by omega) (by omega) W
  rw [madeCells_toList] at h
  exact h

set_option maxRecDepth 100000 in
set_option maxHeartbeats 1000000 in
theorem reset_any (rb bb br : Nat) (old : List Value) (w : World) (ho : Blk w rb 231 old) (h7 : old.length = 7) :
    Calls Tryz.prog 171 #[.pointer (some ⟨rb, 0, none⟩), .slice (some ⟨bb, 0, none⟩) 4096 4096, .iface 179 (.agg #[.iface 293 (.pointer (some ⟨br, 0, none⟩))])] w fun e w' => e = .returned (.tuple #[]) ∧ Blk w' rb 231 (rdCells bb br 0 0 .nilIface (-1) (-1)) ∧ Ch [rb] w w' := by
  obtain ⟨a0, a1, a2, a3, a4, a5, a6, rfl⟩ : ∃ a0 a1 a2 a3 a4 a5 a6, old = [a0, a1, a2, a3, a4, a5, a6] := by
    match old, h7 with
    | [a0, a1, a2, a3, a4, a5, a6], _ => exact ⟨_, _, _, _, _, _, _, rfl⟩
  have hc := ho.cells
  have hf := ho.frees
  have HO := Lib.hid ho
  clear ho h7
  go_enter Tryz.func171, Tryz.ntmps171
  go_wp2
  go_end0
  refine ⟨rfl, ?_, ?_⟩
  · have h := ((((((HO.out.set 0 (.slice (some ⟨bb, 0, none⟩) 4096 4096)).set 1 (.iface 179 (.agg #[.iface 293 (.pointer (some ⟨br, 0, none⟩))]))).set 2 (.int .i64 0)).set 3 (.int .i64 0)).set 4 .nilIface).set 5 (.int .i64 (-1))).set 6 (.int .i64 (-1))
    simp only [List.set_cons_zero, List.set_cons_succ] at h
    exact h
  repeat (first | refine Ch.set ?_ (by simp) _ | exact Ch.refl _ _)

set_option maxRecDepth 100000 in
set_option maxHeartbeats 1000000 in
theorem newReaderSize_any (br : Nat) (w : World) :
    Calls Tryz.prog 153 #[.iface 179 (.agg #[.iface 293 (.pointer (some ⟨br, 0, none⟩))]), .int .i64 4096] w fun e w' => ∃ rb bb, e = .returned (.pointer (some ⟨rb, 0, none⟩)) ∧ w.heap.size ≤ rb ∧ w.heap.size ≤ bb ∧
      Blk w' rb 231 (rdCells bb br 0 0 .nilIface (-1) (-1)) ∧ Blk w' bb 5 zeros4096 ∧ Ch [] w w' := by
  have hmk := make4096
  have hmx : max (4096 : Int) 16 = 4096 := by decide
  have hta : ∀ W, (Instr.typeAssert (.iface 179 (.agg #[.iface 293 (.pointer (some ⟨br, 0, none⟩))])) 159 203 true).run Tryz.prog W = .ok (.tuple #[.pointer none, .bool false]) W := fun _ => by kernel_rfl
  go_enter Tryz.func153, Tryz.ntmps153
  go_wp2_with fail
  refine (reset_any w.heap.size (w.heap.size + 1) br [.slice none 0 0, .nilIface, .int .i64 0, .int .i64 0, .nilIface, .int .i64 0, .int .i64 0] _ ((Blk.new w 231 _).alloc _) rfl).mono ?_
  rintro e W ⟨rfl, h1, h2⟩
  go_wp2
  go_ret
  exact ⟨w.heap.size, w.heap.size + 1, rfl, Nat.le_refl _, Nat.le_succ _, h1, (Blk.newM _ 5 zeros4096 _ (by simp)).ch h2 (by simp), (((Ch.refl [] w).alloc _).alloc _).trans h2 (by simp)⟩

set_option maxRecDepth 100000 in
set_option maxHeartbeats 1000000 in
theorem newParser_any (br : Nat) (w : World) :
    Calls Tryz.prog 131 #[.iface 179 (.agg #[.iface 293 (.pointer (some ⟨br, 0, none⟩))]), .agg #[.bool false, .bool false, .bool false, .bool false, .bool false, .bool false, .bool false, .int .i64 0]] w fun e w' =>
      ∃ pb rb bb cb, e = .returned (.pointer (some ⟨pb, 0, none⟩)) ∧ w.heap.size ≤ pb ∧ w.heap.size ≤ rb ∧ w.heap.size ≤ bb ∧ w.heap.size ≤ cb ∧
      Blk w' pb 206 (parCells rb cb false 1) ∧ Blk w' rb 231 (rdCells bb br 0 0 .nilIface (-1) (-1)) ∧ Blk w' bb 5 zeros4096 ∧ Blk w' cb 229 [.slice none 0 0, .int .i64 0, .int .i8 0] ∧ Ch [] w w' := by
  go_enter Tryz.func131, Tryz.ntmps131
  go_wp2_with fail
  refine wp_gen (fun V => Blk V w.heap.size 201 [.bool false, .bool false, .bool false, .bool false, .bool false, .bool false, .bool false, .int .i64 0] ∧ Ch [] w V ∧ w.heap.size < V.heap.size) ⟨Blk.new w 201 _, (Ch.refl [] w).alloc _, by simp⟩ ?_
  rintro V ⟨hV, hV2, hVs⟩
  have hcV := hV.cells
  have HV := Lib.hid hV
  have HV2 := Lib.hid hV2
  clear hV hV2
  go_region_held3 (fun w' => ∀ o, w'.cell? ⟨w.heap.size, o, none⟩ = [Value.bool false, .bool false, .bool false, .bool false, .bool false, .bool false, .bool false, .int .i64 0][o]?)
    (first
      | (intro o; refine Blk.cells (T := 201) (cs := [Value.bool false, .bool false, .bool false, .bool false, .bool false, .bool false, .bool false, .int .i64 0]) ?_ o; exact HV.out.drew)
      | (intro o; refine Blk.cells (T := 201) (cs := [Value.bool false, .bool false, .bool false, .bool false, .bool false, .bool false, .bool false, .int .i64 0]) ?_ o; exact (HV.out.alloc _).drew)
      | (intro o; refine Blk.cells (T := 201) (cs := [Value.bool false, .bool false, .bool false, .bool false, .bool false, .bool false, .bool false, .int .i64 0]) ?_ o; exact (HV.out.alloc _))
      | (intro o; refine Blk.cells (T := 201) (cs := [Value.bool false, .bool false, .bool false, .bool false, .bool false, .bool false, .bool false, .int .i64 0]) ?_ o; exact HV.out.drew.ch h5 (by simp))
      | (intro o; refine Blk.cells (T := 201) (cs := [Value.bool false, .bool false, .bool false, .bool false, .bool false, .bool false, .bool false, .int .i64 0]) ?_ o; exact (HV.out.drew.ch h5 (by simp)).alloc _)
      | (intro o; refine Blk.cells (T := 201) (cs := [Value.bool false, .bool false, .bool false, .bool false, .bool false, .bool false, .bool false, .int .i64 0]) ?_ o; exact (HV.out.alloc _).drew.ch h5 (by simp))
      | (intro o; refine Blk.cells (T := 201) (cs := [Value.bool false, .bool false, .bool false, .bool false, .bool false, .bool false, .bool false, .int .i64 0]) ?_ o; exact ((HV.out.alloc _).drew.ch h5 (by simp)).alloc _)
      | (intro o; refine Blk.cells (T := 201) (cs := [Value.bool false, .bool false, .bool false, .bool false, .bool false, .bool false, .bool false, .int .i64 0]) ?_ o; exact ((HV.out.drew.ch h5 (by simp)).alloc _).alloc _))
    ((go_at_call 153; refine (newReaderSize_any br _).mono ?_; rintro e W ⟨rb, bb, rfl, h1, h2, h3, h4, h5⟩))
  all_goals go_wp2
  all_goals go_ret
  · have hs := h5.size
    have hs0 := HV2.out.size
    simp only [World.size_drew] at hs h1 h2
    exact ⟨W.heap.size + 1, rb, bb, W.heap.size, rfl, by omega, by omega, by omega, by omega, by exact Blk.newM _ 206 (parCells rb W.heap.size false 1) _ (by simp), (h3.alloc _).alloc _, (h4.alloc _).alloc _, (Blk.new W 229 _).alloc _, (((HV2.out.drew.trans h5 (by simp)).alloc _).alloc _)⟩
  · have hs := h5.size
    have hs0 := HV2.out.size
    simp only [World.size_drew, World.size_alloc] at hs h1 h2
    exact ⟨W.heap.size, rb, bb, V.heap.size, rfl, by omega, by omega, by omega, by omega, by exact Blk.newM _ 206 (parCells rb V.heap.size false 1) _ rfl, h3.alloc _, h4.alloc _, (((Blk.new V 229 [.slice none 0 0, .int .i64 0, .int .i8 0]).drew.ch h5 (by simp)).alloc _), (((HV2.out.alloc _).drew.trans h5 (by simp)).alloc _)⟩
end Go.Proofs.YtfnncdngfggcjaaGreatDoor

namespace Go.Proofs.YtfnncdngfggcjaaGreatDoor
open Go.RowKit

theorem run_neq_eof (ea : Addr) (w : World) :
    (Go.binOp .neq 64 (.iface 138 (.pointer (some ea))) (.iface 138 (.pointer (some ea)))).run Tryz.prog w = .ok (.bool false) w := by
  obtain ⟨i, hi, hc⟩ := info138
  obtain ⟨j, hj, _⟩ := info140
  simp only [Go.binOp]
  simp [Op.equal, Op.maxDepth, run_equalIn_iface_ptr_same w 9998 ea Tryz.underlying64 Tryz.underlying138 hi hc hj]

set_option maxRecDepth 100000 in
set_option maxHeartbeats 1000000 in
theorem bom_empty (pb cb rb bb br B : Nat) (dv : Option Addr) (cap : Nat) (pr : Int) (cnt : Int) (ea fa : Addr) (w : World)
    (hb : Blk w br 296 [.slice dv 0 cap, .int .i64 0, .int .i64 pr]) (g : Glob w B ea fa) (h1 : B ≤ rb)
    (hr : Blk w rb 231 (rdCells bb br 0 0 .nilIface (-1) (-1))) (hp : Blk w pb 206 (parCells rb cb false cnt)) :
    Calls Tryz.prog 132 #[.pointer (some ⟨pb, 0, none⟩)] w fun e w' => e = .returned .nilIface ∧ Blk w' rb 231 (rdCells bb br 0 0 .nilIface (-1) (-1)) ∧ Ch [rb] w w' := by
  have H := Lib.hid (peek_empty rb bb br dv cap pr (-1) (-1) ea w hb g.eof (by have := g.h6; omega) hr (hr.ne hb (by decide)))
  have hc := hp.cells
  simp only [parCells] at hc
  have hpr : pb ≠ rb := hp.ne hr (by decide)
  have HP := Lib.hid hp
  have G := Lib.hid g
  clear g hb hr hp
  go_enter Tryz.func132, Tryz.ntmps132
  go_wp2_with (go_at_call 133; refine H.out.mono ?_; rintro e W ⟨rfl, hW, hW2⟩; have c6 := (G.out.ch hW2 (by simp [h1])).eof; have hneq := run_neq_eof ea; replace hW := Lib.hid hW; replace hW2 := Lib.hid hW2)
  go_ret
  exact ⟨rfl, hW.out, hW2.out⟩

theorem splice_get {l : List UInt8} {cs : List Value} {i : Nat} {c : UInt8} (h : l[i]? = some c) : (splice cs 0 (u8s l))[i]? = some (.int .u8 c.toNat) := by
  have hl : i < l.length := (List.getElem?_eq_some_iff.1 h).1
  unfold splice
  rw [List.take_zero, List.nil_append, List.getElem?_append_left (by rw [u8s_length]; exact hl)]
  unfold u8s
  rw [List.getElem?_map, h]; rfl

set_option maxRecDepth 100000 in
set_option maxHeartbeats 1000000 in
theorem bom_data (pb cb rb bb br db L : Nat) (txt : List UInt8) (b0 b1 : UInt8) (tl : List UInt8) (htx : txt = b0 :: b1 :: tl) (hb0 : b0.toNat < 128) (hLt : L = txt.length) (cap : Nat) (pr cnt : Int) (cs : List Value) (w : World) (hL : L ≤ 4096)
    (hb : Blk w br 296 [.slice (some ⟨db, 0, none⟩) L cap, .int .i64 0, .int .i64 pr])
    (hbb : Blk w bb 5 cs) (hlen : 4096 = cs.length) (hd : ∀ j c, txt[j]? = some c → w.cell? ⟨db, j, none⟩ = some (.int .u8 c.toNat)) (hcap : L ≤ cap) (hne : db ≠ br) (hdl : db < w.heap.size)
    (hr : Blk w rb 231 (rdCells bb br 0 0 .nilIface (-1) (-1))) (hdr : db ≠ rb) (hp : Blk w pb 206 (parCells rb cb false cnt)) :
    Calls Tryz.prog 132 #[.pointer (some ⟨pb, 0, none⟩)] w fun e w' => e = .returned .nilIface ∧ Blk w' rb 231 (rdCells bb br 0 L .nilIface (-1) (-1)) ∧
      Blk w' br 296 [.slice (some ⟨db, 0, none⟩) L cap, .int .i64 L, .int .i64 (-1)] ∧ Blk w' bb 5 (splice cs 0 (u8s txt)) ∧ Ch [rb, br, bb] w w' := by
  have H := Lib.hid (peek_data rb bb br db L txt hLt cap pr (-1) (-1) cs w hL (by rw [hLt, htx]; simp) hb hbb hlen hd hcap hne hdl hr hdr)
  have hc := hp.cells
  simp only [parCells] at hc
  have hg0 : (splice cs 0 (u8s txt))[0]? = some (.int .u8 b0.toNat) := splice_get (by rw [htx]; rfl)
  have hg1 : (splice cs 0 (u8s txt))[1]? = some (.int .u8 b1.toNat) := splice_get (by rw [htx]; rfl)
  have Hg0 := Lib.hid hg0
  have Hg1 := Lib.hid hg1
  have e1 : ((b0.toNat : Int) == 254) = false := beq_eq_false_iff_ne.2 (by omega)
  have e2 : ((b0.toNat : Int) == 255) = false := beq_eq_false_iff_ne.2 (by omega)
  have e3 : ((b0.toNat : Int) == 239) = false := beq_eq_false_iff_ne.2 (by omega)
  clear htx hb hr hp hd hbb hLt hlen hg0 hg1
  go_enter Tryz.func132, Tryz.ntmps132
  go_wp2_with (go_at_call 133; refine H.out.mono ?_; rintro e W ⟨rfl, hW, hW1, hW3, hW2⟩; have c0 : W.cell? ⟨bb, 0, none⟩ = some (.int .u8 b0.toNat) := (hW3.cells 0).trans Hg0.out; have c1 : W.cell? ⟨bb, 1, none⟩ = some (.int .u8 b1.toNat) := (hW3.cells 1).trans Hg1.out; replace hW := Lib.hid hW; replace hW1 := Lib.hid hW1; replace hW2 := Lib.hid hW2; replace hW3 := Lib.hid hW3)
  all_goals go_ret
  all_goals exact ⟨rfl, hW.out, hW1.out, hW3.out, hW2.out⟩
end Go.Proofs.YtfnncdngfggcjaaGreatDoor
