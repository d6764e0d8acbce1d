/- Contracts of bytes.IndexByte, bufio.Reader's Buffered and ReadSlice. -/
import Derived.Test.YtfnncdngfggcjaaGreatDoorRd4
import Derived.Shelf.Bytes.SlIndexAt
namespace Go.Proofs.YtfnncdngfggcjaaGreatDoor
open Go.RowKit

set_option maxRecDepth 1000000 in
set_option maxHeartbeats 2000000 in
theorem indexByte_any (a : Addr) (n c : Nat) (xs : List Int) (cv : Int) (w : World) (hx : xs.length = n) (hc : ∀ i, i < n → w.cell? (a.add i) = some (.int .u8 (xs.getD i 0))) :
    Calls Tryz.prog 199 #[.slice (some a) n c, .int .u8 cv] w fun e w' => e = .returned (.int .i64 (Lib.indexByte (Lib.bytesOf xs) cv.toNat.toUInt8)) ∧ w = w' := by
  go_enter Tryz.func199, Tryz.ntmps199
  go_wp2
  rw [run_callFunc_extern Tryz.func207 (by kernel_rfl) (by kernel_rfl) (by kernel_rfl) (e := Extern.BytealgIndexByte.indexByte) (by kernel_rfl), Lib.run_indexByteAt w a n c xs hx hc cv]
  simp only [Result.andThen]
  rw [Oper.upon_value]
  go_wp2
  go_ret
  exact ⟨rfl, rfl⟩

def intsOf (l : List UInt8) : List Int := l.map fun c => (c.toNat : Int)
theorem bytesOf_intsOf (l : List UInt8) : Lib.bytesOf (intsOf l) = l := by
  unfold Lib.bytesOf intsOf
  rw [List.map_map]
  conv => rhs; rw [← List.map_id l]
  refine List.map_congr_left fun c _ => ?_
  simp

theorem indexByte_line (l rest : List UInt8) (c : UInt8) (h : c ∉ l) : Lib.indexByte (l ++ c :: rest) c = l.length := by
  induction l with
  | nil => simp [Lib.indexByte]
  | cons b l ih =>
    have h1 : (b == c) = false := beq_eq_false_iff_ne.2 (fun e => h (by simp [e]))
    have h2 := ih (fun hm => h (by simp [hm]))
    simp only [List.cons_append, Lib.indexByte, h1, h2]
    have : ((l.length : Int) == -1) = false := beq_eq_false_iff_ne.2 (by omega)
    simp [this]

/-- Within the buffer the newline stands n places on. -/
theorem indexByte_in (bb r n m c : Nat) (txt line rest : List UInt8) (w : World) (hbuf : ∀ i c, txt[i]? = some c → w.cell? ⟨bb, i, none⟩ = some (.int .u8 c.toNat))
    (hm : m = txt.length - r) (hl : txt.drop r = line ++ 10 :: rest) (hn : n = line.length) (hno : 10 ∉ line) :
    Calls Tryz.prog 199 #[.slice (some ⟨bb, r, none⟩) m c, .int .u8 10] w fun e w' => e = .returned (.int .i64 n) ∧ Dr w w' := by
  have hx : (intsOf (txt.drop r)).length = m := by simp [intsOf, hm]
  refine (indexByte_any ⟨bb, r, none⟩ m c (intsOf (txt.drop r)) 10 w hx ?_).mono ?_
  · intro i hi
    have hi' : i < (txt.drop r).length := by simp; omega
    have h1 : txt[r + i]? = some ((txt.drop r)[i]) := by rw [← List.getElem?_drop, List.getElem?_eq_getElem hi']
    have h2 := hbuf _ _ h1
    have e1 : (⟨bb, r, none⟩ : Addr).add i = ⟨bb, r + i, none⟩ := by unfold Addr.add; split <;> simp_all
    rw [e1, h2]
    have e2 : (intsOf (txt.drop r)).getD i 0 = (((txt.drop r)[i]).toNat : Int) := by
      rw [List.getD_eq_getElem?_getD]; unfold intsOf; rw [List.getElem?_map, List.getElem?_eq_getElem hi']; rfl
    rw [e2]
  · rintro e w' ⟨rfl, rfl⟩
    refine ⟨?_, Dr.refl _⟩
    rw [bytesOf_intsOf, hl]
    have := indexByte_line line rest 10 hno
    rw [hn, ← this]; rfl

theorem indexByte_empty (A : Addr) (c : Nat) (w : World) : Calls Tryz.prog 199 #[.slice (some A) 0 c, .int .u8 10] w fun e w' => e = .returned (.int .i64 (-1)) ∧ Dr w w' :=
  (indexByte_any A 0 c [] 10 w rfl (fun _i hi => absurd hi (Nat.not_lt_zero _))).mono fun _ _ ⟨h1, h2⟩ => ⟨h1, h2 ▸ Dr.refl _⟩

set_option maxRecDepth 100000 in
set_option maxHeartbeats 1000000 in
/-- A whole line stands in the buffer. -/
theorem readSlice_line (rb bb br r n L : Nat) (txt line rest : List UInt8) (lb ls : Int) (w : World) (hLt : L = txt.length) (hL : L ≤ 4096)
    (hbuf : ∀ i c, txt[i]? = some c → w.cell? ⟨bb, i, none⟩ = some (.int .u8 c.toNat)) (hl : txt.drop r = line ++ 10 :: rest) (hn : n = line.length) (hno : 10 ∉ line)
    (hr : Blk w rb 231 (rdCells bb br r L .nilIface lb ls)) (hne : rb ≠ bb) :
    Calls Tryz.prog 187 #[.pointer (some ⟨rb, 0, none⟩), .int .u8 10] w fun e w' => e = .returned (.tuple #[.slice (some ⟨bb, r, none⟩) (n + 1) (4096 - r), .nilIface]) ∧
      Blk w' rb 231 (rdCells bb br (r + n + 1 : Nat) L .nilIface 10 (-1)) ∧ Ch [rb] w w' := by
  have hc := hr.cells
  have hf := hr.frees
  simp only [rdCells] at hc
  have hlen : L - r = n + 1 + rest.length := by rw [hLt, ← List.length_drop, hl]; simp; omega
  have hrL : r + n + 1 ≤ L := by omega
  have h10 : w.cell? ⟨bb, r + n, none⟩ = some (.int .u8 10) := by
    have : txt[r + n]? = some 10 := by rw [← List.getElem?_drop, hl, hn]; simp
    exact hbuf _ _ this
  have HI := Lib.hid (fun (c : Nat) (V : World) (hV : Dr w V) => indexByte_in bb r n (L - r) c txt line rest V (fun i c h => (hV.cell _).trans (hbuf i c h)) (by rw [hLt]) hl hn hno)
  have hr4 : ¬ 4096 = r := by omega
  have hri : (r : Int) ≤ (L : Int) := by omega
  have hLi : (L : Int) ≤ 4096 := by omega
  have hsub : r + n + 1 - r = n + 1 := by omega
  have HR := Lib.hid hr
  clear hr hLt hl hn hbuf hlen
  go_enter Tryz.func187, Tryz.ntmps187
  go_wp2
  refine wp_loop_rounds 1 ?_
  rw [rounds_succ]
  go_wp2
  go_quiet ((go_at_call 199; exact quiet_of1 (HI.out _ _ ((Dr.refl _).drewN _))))
  go_wp2
  go_quiet (fail)
  go_wp2
  go_ret2
  refine ⟨by rw [show n + 1 = r + n + 1 - r from hsub.symm]; rfl, ?_, (((((Ch.refl [rb] w).drewN _).set (by simp) _).set (by simp) _).set (by simp) _)⟩
  have := ((HR.out.set 2 (.int .i64 (r + (n + 1)))).set 5 (.int .i64 10)).set 6 (.int .i64 (-1))
  simp only [rdCells] at this ⊢
  rw [show ((r + n + 1 : Nat) : Int) = (r : Int) + ((n : Int) + 1) by omega]
  exact this

theorem readErr_eof (rb bb br : Nat) (r wr lb ls : Int) (ea : Addr) (w : World) (hr : Blk w rb 231 (rdCells bb br r wr (.iface 138 (.pointer (some ea))) lb ls)) :
    Calls Tryz.prog 156 #[.pointer (some ⟨rb, 0, none⟩)] w fun e w' => e = .returned (.iface 138 (.pointer (some ea))) ∧ Blk w' rb 231 (rdCells bb br r wr .nilIface lb ls) ∧ Ch [rb] w w' := readErr_any _ _ _ _ _ _ _ _ _ hr

set_option maxHeartbeats 400000 in
theorem buffered_any (rb bb br : Nat) (r wr : Nat) (lb ls : Int) (err : Value) (w : World) (hr : Blk w rb 231 (rdCells bb br r wr err lb ls)) (h1 : r ≤ wr) (h2 : wr ≤ 4096) :
    Calls Tryz.prog 172 #[.pointer (some ⟨rb, 0, none⟩)] w fun e w' => e = .returned (.int .i64 ((wr : Int) - r)) ∧ Dr w w' := by
  have hc := hr.cells
  simp only [rdCells] at hc
  have e1 : IntKind.i64.wrap ((wr : Int) - r) = (wr : Int) - r := IntWalk.i64_in _ (by omega)
  clear hr
  go_enter Tryz.func172, Tryz.ntmps172
  go_wp2
  go_quiet (fail)
  go_wp2
  go_ret
  exact ⟨rfl, (Dr.refl _).drewN _⟩

set_option maxRecDepth 100000 in
set_option maxHeartbeats 2000000 in
/-- All lines are read: the end of the text. -/
theorem readSlice_eof (rb bb br L : Nat) (dv : Option Addr) (cap : Nat) (pr lb ls : Int) (ea : Addr) (cs : List Value) (w : World) (hL : L ≤ 4096)
    (hb : Blk w br 296 [.slice dv L cap, .int .i64 L, .int .i64 pr]) (he : w.cell? ⟨6, 0, none⟩ = some (.iface 138 (.pointer (some ea)))) (h6 : 6 ≠ rb) (h6b : 6 ≠ bb)
    (hr : Blk w rb 231 (rdCells bb br L L .nilIface lb ls)) (hbb : Blk w bb 5 cs) :
    Calls Tryz.prog 187 #[.pointer (some ⟨rb, 0, none⟩), .int .u8 10] w fun e w' => e = .returned (.tuple #[.slice (some ⟨bb, 0, none⟩) 0 4096, .iface 138 (.pointer (some ea))]) ∧
      Blk w' rb 231 (rdCells bb br 0 0 .nilIface lb ls) ∧ Ch [rb] w w' := by
  have hc := hr.cells
  have hf := hr.frees
  simp only [rdCells] at hc
  have hrr : rb ≠ br := hr.ne hb (by decide)
  have hfill : ∀ V, Dr w V → Calls Tryz.prog 155 #[.pointer (some ⟨rb, 0, none⟩)] V fun e w' => e = .returned (.tuple #[]) ∧ Blk w' rb 231 (rdCells bb br 0 0 (.iface 138 (.pointer (some ea))) lb ls) ∧ Ch [rb] V w' := by
    intro V hV
    rcases Nat.eq_zero_or_pos L with h0 | h0
    · subst h0
      exact fill_eof0 rb bb br dv 0 cap 0 pr lb ls _ ea V (by omega) (hb.dr hV) ((hV.cell _).trans he) (hr.dr hV)
    · exact fill_eof1 rb bb br dv L cap L pr lb ls _ ea cs V hL h0 hL (hb.dr hV) ((hV.cell _).trans he) h6 h6b (hr.dr hV) (hbb.dr hV)
  have HF := Lib.hid hfill
  have HR := Lib.hid hr
  clear hr hb hbb he hfill
  have hLi : (L : Int) ≤ 4096 := by omega
  by_cases h4 : 4096 = L
  all_goals
    try subst h4
    go_enter Tryz.func187, Tryz.ntmps187
    go_wp2
    refine wp_loop_rounds 2 ?_
    rw [rounds_succ]
    go_wp2
    go_quiet ((go_at_call 199; exact quiet_of1 (indexByte_empty _ _ _)))
    go_wp2
    go_quiet ((go_at_call 172; exact quiet_of2 (buffered_any rb bb br _ _ lb ls _ _ (HR.out.drewN _) (Nat.le_refl _) hL)))
    go_wp2
    go_quiet (fail)
    go_wp2_with (go_at_call 155; refine (HF.out _ (by repeat (first | exact Dr.refl _ | apply Dr.drewN | apply Dr.drew))).mono ?_; rintro e W ⟨rfl, hW, hW2⟩)
    have hcW := hW.cells
    have hfW := hW.frees
    simp only [rdCells] at hcW
    have HW := Lib.hid hW
    have HW2 := Lib.hid hW2
    clear hW hW2 hc hf
    rw [rounds_succ]
    go_wp2
    go_quiet ((go_at_call 199; exact quiet_of1 (indexByte_empty _ _ _)))
    go_wp2
    go_quiet (fail)
    go_wp2_with (go_at_call 156; refine (readErr_eof rb bb br 0 0 lb ls ea _ (by exact HW.out.set 2 _)).mono ?_; rintro e U ⟨rfl, hU, hU2⟩)
    go_ret2
    exact ⟨rfl, hU, ((((((Ch.refl [rb] w).drewN _).trans HW2.out (by simp)).drewN _).set (by simp) _).trans hU2 (by simp))⟩
end Go.Proofs.YtfnncdngfggcjaaGreatDoor
