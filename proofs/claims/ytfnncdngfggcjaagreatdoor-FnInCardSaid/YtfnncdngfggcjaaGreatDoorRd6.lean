/- The two sentinels that are read (io.EOF, bufio.ErrBufferFull), and contracts of collectFragments. -/
import Derived.Test.YtfnncdngfggcjaaGreatDoorRd5
import Derived.LaidEql
namespace Go.Proofs.YtfnncdngfggcjaaGreatDoor
open Go.RowKit

theorem results_tmp4 {fn : Func} {t u v x : Tmp} (h : fn.results = #[.tmp t, .tmp u, .tmp v, .tmp x]) (tmps : Array Value) (P : Program) (w : World) :
    (results fn tmps).run P w = .ok (.tuple #[tmps.getD t undef, tmps.getD u undef, tmps.getD v undef, tmps.getD x undef]) w := by
  simp [results, h]

/-- The sentinels, below block B. -/
structure Glob (w : World) (B : Nat) (ea fa : Addr) : Prop where
  h6 : 6 < B
  h8 : 8 < B
  hB : B ≤ w.heap.size
  eof : w.cell? ⟨6, 0, none⟩ = some (.iface 138 (.pointer (some ea)))
  full : w.cell? ⟨8, 0, none⟩ = some (.iface 138 (.pointer (some fa)))
  ne : ea ≠ fa
  le : ea.block < B
  lf : fa.block < B
  be : ∃ c t, w.heap[ea.block]? = some (.cells c t (0, 0))
  bf : ∃ c t, w.heap[fa.block]? = some (.cells c t (0, 0))

theorem Glob.ch {w w' : World} {B : Nat} {ea fa : Addr} (g : Glob w B ea fa) {S : List Nat} (h : Ch S w w') (hS : ∀ x, x ∈ S → B ≤ x) : Glob w' B ea fa := by
  have hb : ∀ k, k < B → w'.heap[k]? = w.heap[k]? := fun k hk => h.block k (Nat.lt_of_lt_of_le hk g.hB) (fun hm => by have := hS k hm; omega)
  refine ⟨g.h6, g.h8, Nat.le_trans g.hB h.size, ?_, ?_, g.ne, g.le, g.lf, ?_, ?_⟩
  · rw [World.cell?_of_block (w := w) (hb 6 g.h6)]; exact g.eof
  · rw [World.cell?_of_block (w := w) (hb 8 g.h8)]; exact g.full
  · rw [hb _ g.le]; exact g.be
  · rw [hb _ g.lf]; exact g.bf

theorem info138m : (Tryz.prog.info? 138).map (·.comparable) = some true := by kernel_rfl
theorem info140m : (Tryz.prog.info? 140).map (·.size) = some 1 := by kernel_rfl
theorem info138 : ∃ i, Tryz.prog.info? 138 = some i ∧ i.comparable = true := Option.map_eq_some_iff.1 info138m
theorem info140 : ∃ j, Tryz.prog.info? 140 = some j ∧ j.size ≠ 0 := by
  obtain ⟨j, h, e⟩ := Option.map_eq_some_iff.1 info140m
  exact ⟨j, h, by omega⟩

theorem run_neq_sentinels {w : World} {B : Nat} {ea fa : Addr} (g : Glob w B ea fa) :
    (Go.binOp .neq 64 (.iface 138 (.pointer (some ea))) (.iface 138 (.pointer (some fa)))).run Tryz.prog w = .ok (.bool true) w := by
  obtain ⟨i, hi, hc⟩ := info138
  obtain ⟨j, hj, hs⟩ := info140
  obtain ⟨ca, ta, ha⟩ := g.be
  obtain ⟨cb, tb, hb⟩ := g.bf
  simp only [Go.binOp]
  simp [Op.equal, Op.maxDepth, run_equalIn_iface_ptr_other w 9998 Tryz.underlying64 Tryz.underlying138 hi hc hj hs g.ne ha hb]

theorem run_eql_eof (ea : Addr) (w : World) :
    (Go.binOp .eql 64 (.iface 138 (.pointer (some ea))) (.iface 138 (.pointer (some ea)))).run Tryz.prog w = .ok (.bool true) w := by
  obtain ⟨i, hi, hc⟩ := info138
  obtain ⟨j, hj, hs⟩ := info140
  exact run_eql_iface_ptr_same w ea Tryz.underlying64 Tryz.underlying138 hi hc hj

set_option maxRecDepth 100000 in
set_option maxHeartbeats 1000000 in
theorem collect_line (rb bb br r n L : Nat) (txt line rest : List UInt8) (lb ls : Int) (w : World) (hLt : L = txt.length) (hL : L ≤ 4096)
    (hbuf : ∀ i c, txt[i]? = some c → w.cell? ⟨bb, i, none⟩ = some (.int .u8 c.toNat)) (hl : txt.drop r = line ++ 10 :: rest) (hn : n = line.length) (hno : 10 ∉ line)
    (hr : Blk w rb 231 (rdCells bb br r L .nilIface lb ls)) (hne : rb ≠ bb) :
    Calls Tryz.prog 173 #[.pointer (some ⟨rb, 0, none⟩), .int .u8 10] w fun e w' => e = .returned (.tuple #[.slice none 0 0, .slice (some ⟨bb, r, none⟩) (n + 1) (4096 - r), .int .i64 (n + 1 : Nat), .nilIface]) ∧
      Blk w' rb 231 (rdCells bb br (r + n + 1 : Nat) L .nilIface 10 (-1)) ∧ Ch [rb] w w' := by
  have hlen : L - r = n + 1 + rest.length := by rw [hLt, ← List.length_drop, hl]; simp; omega
  have H := Lib.hid (readSlice_line rb bb br r n L txt line rest lb ls w hLt hL hbuf hl hn hno hr hne)
  have hn1 : (n : Int) ≤ 4096 := by omega
  clear hLt hbuf hl hn hno hr hlen
  go_enter Tryz.func173, Tryz.ntmps173
  go_wp2
  refine wp_loop_rounds 1 ?_
  rw [rounds_succ]
  go_wp2_with (go_at_call 187; refine H.out.mono ?_; rintro e W ⟨rfl, hW, hW2⟩)
  refine bodyPost_ret (results_tmp4 rfl _ _ _) rfl ⟨rfl, hW, hW2⟩

set_option maxRecDepth 100000 in
set_option maxHeartbeats 1000000 in
theorem collect_eof (rb bb br L B : Nat) (dv : Option Addr) (cap : Nat) (pr lb ls : Int) (ea fa : Addr) (cs : List Value) (w : World) (hL : L ≤ 4096)
    (hb : Blk w br 296 [.slice dv L cap, .int .i64 L, .int .i64 pr]) (g : Glob w B ea fa) (h1 : B ≤ rb) (h2 : B ≤ bb)
    (hr : Blk w rb 231 (rdCells bb br L L .nilIface lb ls)) (hbb : Blk w bb 5 cs) :
    Calls Tryz.prog 173 #[.pointer (some ⟨rb, 0, none⟩), .int .u8 10] w fun e w' => e = .returned (.tuple #[.slice none 0 0, .slice (some ⟨bb, 0, none⟩) 0 4096, .int .i64 0, .iface 138 (.pointer (some ea))]) ∧
      Blk w' rb 231 (rdCells bb br 0 0 .nilIface lb ls) ∧ Ch [rb] w w' := by
  have H := Lib.hid (readSlice_eof rb bb br L dv cap pr lb ls ea cs w hL hb g.eof (by have := g.h6; omega) (by have := g.h6; omega) hr hbb)
  have G := Lib.hid g
  clear g hb hr hbb
  go_enter Tryz.func173, Tryz.ntmps173
  go_wp2
  refine wp_loop_rounds 1 ?_
  rw [rounds_succ]
  go_wp2_with (go_at_call 187; refine H.out.mono ?_; rintro e W ⟨rfl, hW, hW2⟩; have gW := G.out.ch hW2 (by simp [h1]); have c8 := gW.full; have hneq := run_neq_sentinels gW; replace gW := Lib.hid gW)
  refine bodyPost_ret (results_tmp4 rfl _ _ _) rfl ⟨rfl, hW, hW2⟩
end Go.Proofs.YtfnncdngfggcjaaGreatDoor
