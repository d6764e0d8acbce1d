/- Contracts of bufio.Reader.ReadBytes and of the parser's readUntil. -/
import Derived.Test.YtfnncdngfggcjaaGreatDoorRd6
import Derived.Deep.OwnRows
namespace Go.Proofs.YtfnncdngfggcjaaGreatDoor
open Go.RowKit

theorem info5 : (Tryz.prog.info? 5).map (fun i => (i.zero, i.size, i.bytes)) = some (some (.int .u8 0), 1, 1) := by kernel_rfl

theorem madeCells_toList (z : Value) (n : Nat) : (madeCells #[z] n) = (List.replicate n z).toArray := by
  apply Array.ext
  · simp [madeCells]
  · intro i h1 h2
    simp [madeCells] at h1 h2 ⊢
    simp [Nat.mod_one]

theorem splice_all {α : Type} (L cs : List α) (h : cs.length = L.length) : splice L 0 cs = cs := by simp [splice, h]

set_option maxRecDepth 100000 in
set_option maxHeartbeats 1000000 in
theorem readBytes_line (rb bb br r n L : Nat) (txt line rest : List UInt8) (lb ls : Int) (w : World) (hLt : L = txt.length) (hL : L ≤ 4096)
    (hbuf : ∀ i c, txt[i]? = some c → w.cell? ⟨bb, i, none⟩ = some (.int .u8 c.toNat)) (hl : txt.drop r = line ++ 10 :: rest) (hn : n = line.length) (hno : 10 ∉ line)
    (hr : Blk w rb 231 (rdCells bb br r L .nilIface lb ls)) (hne : rb ≠ bb) (hbl : bb < w.heap.size) :
    Calls Tryz.prog 157 #[.pointer (some ⟨rb, 0, none⟩), .int .u8 10] w fun e w' => ∃ nb, w.heap.size ≤ nb ∧ e = .returned (.tuple #[.slice (some ⟨nb, 0, none⟩) (n + 1) (n + 1), .nilIface]) ∧
      Blk w' nb 5 (u8s (line ++ [10])) ∧ Blk w' rb 231 (rdCells bb br (r + n + 1 : Nat) L .nilIface 10 (-1)) ∧ Ch [rb] w w' := by
  have hlen : L - r = n + 1 + rest.length := by rw [hLt, ← List.length_drop, hl]; simp; omega
  have H := Lib.hid (collect_line rb bb br r n L txt line rest lb ls w hLt hL hbuf hl hn hno hr hne)
  have hn1 : (n : Int) ≤ 4096 := by omega
  have hmk := fun W => run_make_row' (P := Tryz.prog) 78 5 (.int .u8 0) 1 Tryz.underlying78 info5 rfl .i64 .i64 (n + 1) (by omega) (by omega) W
  have hcast : ((n + 1 : Nat) : Int) = (n : Int) + 1 := by omega
  simp only [hcast] at hmk
  have hlit : (u8s (line ++ [10])).length = n + 1 := by rw [u8s_length, hn]; simp
  have hsrc : ∀ j v, (u8s (line ++ [10]))[j]? = some v → w.cell? ⟨bb, r + j, none⟩ = some v := by
    intro j v hv
    obtain ⟨c, hc, rfl⟩ := u8s_get hv
    refine hbuf _ _ ?_
    rw [← List.getElem?_drop, hl, show line ++ 10 :: rest = (line ++ [10]) ++ rest by simp, List.getElem?_append_left (by have := (List.getElem?_eq_some_iff.1 hc).1; exact this)]
    exact hc
  have HS := Lib.hid hsrc
  have HLI := Lib.hid hlit
  clear hLt hbuf hl hn hno hr hlen hsrc hlit hcast
  go_enter Tryz.func157, Tryz.ntmps157
  go_wp2_with (go_at_call 173; refine H.out.mono ?_; rintro e W ⟨rfl, hW, hW2⟩; replace hW := Lib.hid hW; replace hW2 := Lib.hid hW2)
  refine wp_loop_rounds 1 ?_
  rw [rounds_succ]
  have hnb : Blk (W.alloc (.cells (madeCells #[.int .u8 0] (n + 1)) 5)) W.heap.size 5 (List.replicate (n + 1) (.int .u8 0)) := by rw [madeCells_toList]; exact Blk.new _ _ _
  have HNB := Lib.hid hnb
  clear hnb
  go_wp2_with (with_reducible refine wpList_copy_blk rfl (.tmp 40) (.tmp 41) 78 78 rfl 5 Tryz.underlying78 (by kernel_rfl) (some ⟨W.heap.size, 0, none⟩) (some ⟨bb, r, none⟩) (n + 1) (n + 1) (n + 1) (4096 - r) rfl rfl W.heap.size 0 _ 5 HNB.out (u8s (line ++ [10])) ?hn ?hp ?hfit (u8s_one _) ?_)
  case hn => rw [HLI.out]; exact (Nat.min_self _).symm
  case hp =>
    refine fun _ j v hv => ?_
    have h1 := HS.out j v hv
    have h2 := hW2.out.cell (p := ⟨bb, r + j, none⟩) hbl (by simp [hne.symm])
    have h3 := World.cell?_alloc_lt W (.cells (madeCells #[.int .u8 0] (n + 1)) 5) ⟨bb, r + j, none⟩ (Nat.lt_of_lt_of_le hbl hW2.out.size)
    rw [h3, h2, h1]
  case hfit => rw [HLI.out]; simp
  intro W3 HB3 HC3
  rw [splice_all _ _ (by rw [HLI.out]; simp)] at HB3
  go_wp2
  go_ret2
  have hnr : rb ≠ W.heap.size := Nat.ne_of_lt (hW.out.lt)
  exact ⟨W.heap.size, hW2.out.size, rfl, HB3.out, (hW.out.alloc _).ch HC3 (by simp [hnr]), (hW2.out.alloc _).trans HC3 (by simp [hW2.out.size])⟩

set_option maxRecDepth 100000 in
set_option maxHeartbeats 1000000 in
theorem readBytes_eof (rb bb br L B : Nat) (dv : Option Addr) (cap : Nat) (pr lb ls : Int) (ea fa : Addr) (cs : List Value) (w : World) (hL : L ≤ 4096)
    (hb : Blk w br 296 [.slice dv L cap, .int .i64 L, .int .i64 pr]) (g : Glob w B ea fa) (h1 : B ≤ rb) (h2 : B ≤ bb)
    (hr : Blk w rb 231 (rdCells bb br L L .nilIface lb ls)) (hbb : Blk w bb 5 cs) :
    Calls Tryz.prog 157 #[.pointer (some ⟨rb, 0, none⟩), .int .u8 10] w fun e w' => ∃ nb, e = .returned (.tuple #[.slice (some ⟨nb, 0, none⟩) 0 0, .iface 138 (.pointer (some ea))]) ∧
      Blk w' rb 231 (rdCells bb br 0 0 .nilIface lb ls) ∧ Ch [rb] w w' := by
  have H := Lib.hid (collect_eof rb bb br L B dv cap pr lb ls ea fa cs w hL hb g h1 h2 hr hbb)
  have hmk := fun W => run_make_row' (P := Tryz.prog) 78 5 (.int .u8 0) 1 Tryz.underlying78 info5 rfl .i64 .i64 0 (by omega) (by omega) W
  simp only [show ((0 : Nat) : Int) = 0 from rfl] at hmk
  clear g hb hr hbb
  go_enter Tryz.func157, Tryz.ntmps157
  go_wp2_with (go_at_call 173; refine H.out.mono ?_; rintro e W ⟨rfl, hW, hW2⟩; replace hW := Lib.hid hW; replace hW2 := Lib.hid hW2)
  refine wp_loop_rounds 1 ?_
  rw [rounds_succ]
  go_wp2_with (with_reducible refine wpList_copy_nothing rfl (.tmp 40) (.tmp 41) 78 78 rfl 5 Tryz.underlying78 (by kernel_rfl) _ _ _ _ _ _ rfl rfl (by simp) ?_)
  go_ret2
  exact ⟨_, rfl, hW.out.alloc _, hW2.out.alloc _⟩

/-- The parser's own cells. -/
def parCells (rb cb : Nat) (eof : Bool) (cnt : Int) : List Value :=
  [.pointer (some ⟨rb, 0, none⟩), .bool false, .bool false, .bool false, .bool false, .bool false, .bool false, .bool false, .int .i64 0, .bool eof, .int .i64 cnt, .pointer (some ⟨cb, 0, none⟩)]

set_option maxRecDepth 100000 in
set_option maxHeartbeats 1000000 in
theorem readUntil_line (pb cb rb bb br r n L : Nat) (cnt : Int) (eo : Bool) (txt line rest : List UInt8) (lb ls : Int) (w : World) (hLt : L = txt.length) (hL : L ≤ 4096)
    (hbuf : ∀ i c, txt[i]? = some c → w.cell? ⟨bb, i, none⟩ = some (.int .u8 c.toNat)) (hl : txt.drop r = line ++ 10 :: rest) (hn : n = line.length) (hno : 10 ∉ line)
    (hr : Blk w rb 231 (rdCells bb br r L .nilIface lb ls)) (hne : rb ≠ bb) (hbl : bb < w.heap.size) (hp : Blk w pb 206 (parCells rb cb eo cnt)) :
    Calls Tryz.prog 134 #[.pointer (some ⟨pb, 0, none⟩), .int .u8 10] w fun e w' => ∃ nb, w.heap.size ≤ nb ∧ e = .returned (.tuple #[.slice (some ⟨nb, 0, none⟩) (n + 1) (n + 1), .nilIface]) ∧
      Blk w' nb 5 (u8s (line ++ [10])) ∧ Blk w' rb 231 (rdCells bb br (r + n + 1 : Nat) L .nilIface 10 (-1)) ∧ Ch [rb] w w' := by
  have H := Lib.hid (readBytes_line rb bb br r n L txt line rest lb ls w hLt hL hbuf hl hn hno hr hne hbl)
  have hc := hp.cells
  simp only [parCells] at hc
  clear hLt hbuf hl hn hno hr hp
  go_enter Tryz.func134, Tryz.ntmps134
  go_wp2_with (go_at_call 157; refine H.out.mono ?_; rintro e W ⟨nb, hnb, rfl, hW0, hW, hW2⟩)
  go_ret2
  exact ⟨nb, hnb, rfl, hW0, hW, hW2⟩

set_option maxRecDepth 100000 in
set_option maxHeartbeats 1000000 in
theorem readUntil_eof (pb cb rb bb br L B : Nat) (cnt : Int) (dv : Option Addr) (cap : Nat) (pr lb ls : Int) (ea fa : Addr) (cs : List Value) (w : World) (hL : L ≤ 4096)
    (hb : Blk w br 296 [.slice dv L cap, .int .i64 L, .int .i64 pr]) (g : Glob w B ea fa) (h1 : B ≤ rb) (h2 : B ≤ bb)
    (hr : Blk w rb 231 (rdCells bb br L L .nilIface lb ls)) (hbb : Blk w bb 5 cs) (hp : Blk w pb 206 (parCells rb cb false cnt)) :
    Calls Tryz.prog 134 #[.pointer (some ⟨pb, 0, none⟩), .int .u8 10] w fun e w' => ∃ nb, e = .returned (.tuple #[.slice (some ⟨nb, 0, none⟩) 0 0, .nilIface]) ∧
      Blk w' rb 231 (rdCells bb br 0 0 .nilIface lb ls) ∧ Blk w' pb 206 (parCells rb cb true cnt) ∧ Ch [rb, pb] w w' := by
  have H := Lib.hid (readBytes_eof rb bb br L B dv cap pr lb ls ea fa cs w hL hb g h1 h2 hr hbb)
  have hc := hp.cells
  simp only [parCells] at hc
  have hpr : pb ≠ rb := hp.ne hr (by decide)
  have HP := Lib.hid hp
  have G := Lib.hid g
  clear g hb hr hbb hp
  go_enter Tryz.func134, Tryz.ntmps134
  go_wp2_with (go_at_call 157; refine H.out.mono ?_; rintro e W ⟨nb, rfl, hW, hW2⟩; have c6 := (G.out.ch hW2 (by simp [h1])).eof; have heq := run_eql_eof ea; have hPW := HP.out.ch hW2 (by simp [hpr]); have hcW := hPW.cells; simp only [parCells] at hcW; have hfW := hPW.frees; replace hPW := Lib.hid hPW; replace hW := Lib.hid hW; replace hW2 := Lib.hid hW2)
  go_ret2
  exact ⟨nb, rfl, hW.out.setCell hpr.symm _, hPW.out.set 9 _, (hW2.out.mono (by simp)).set (by simp) _⟩
end Go.Proofs.YtfnncdngfggcjaaGreatDoor
