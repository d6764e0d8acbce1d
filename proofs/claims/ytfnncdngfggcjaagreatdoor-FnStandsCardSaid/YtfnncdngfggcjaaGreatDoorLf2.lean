/- Contracts of zzIndexAny at two signs, of cleanComment behind a section, of Buffer.String and Reset at an empty buffer, of strings.TrimLeftFunc. -/
import Derived.Test.YtfnncdngfggcjaaGreatDoorLf1
import Derived.Test.YtfnncdngfggcjaaGreatDoorFilM
import Derived.Lib.ConvBytes
namespace Go.Proofs.YtfnncdngfggcjaaGreatDoor
open Go.RowKit

theorem bt_u8 (s : ByteArray) (i : Nat) (h : i < s.size) : ((s[i]'h).toNat : Int) = bt s i := bt_get s i h
theorem bt_lt {s : ByteArray} {i : Nat} (h : i < s.size) {n : Nat} (hb : bt s i < n) : (s[i]'h).toNat < n := by
  rw [← bt_get s i h] at hb; omega

theorem next_byte (W : World) (k : Nat) (s : ByteArray) (pos : Nat) (c : Int) (hk : W.heap[k]? = some (.stringIter s pos)) (h : pos < s.size) (hc : bt s pos = c) (ha : c < 128) :
    ∀ ty, (Instr.next (.pointer (some ⟨k, 0, none⟩)) true ty).run Tryz.prog W = .ok (.tuple #[.bool true, .int .i64 pos, .int .i32 c]) (W.iterAt k s (pos + 1)) := fun ty => by
  rw [Lib.run_next_ascii_at W k s pos ty hk h (bt_lt h (by rw [hc]; exact ha)), bt_get s pos h, hc]
theorem next_end (W : World) (k : Nat) (s : ByteArray) (pos : Nat) (hk : W.heap[k]? = some (.stringIter s pos)) (h : ¬ pos < s.size) :
    ∀ ty, (Instr.next (.pointer (some ⟨k, 0, none⟩)) true ty).run Tryz.prog W = .ok (.tuple #[.bool false]) W := fun ty => Lib.run_next_end_at W k s pos ty hk h

theorem Ch.iterAt {S : List Nat} {a w : World} (h : Ch S a w) {k : Nat} (hk : k ∈ S ∨ a.heap.size ≤ k) (s : ByteArray) (pos : Nat) : Ch S a (w.iterAt k s pos) :=
  ⟨h.os, h.tape, h.output, by rw [Lib.iterAt_size]; exact h.size, fun i hi hS => (Lib.iterAt_other w k i s pos (fun e => by subst e; rcases hk with h' | h'; exact hS h'; omega)).trans (h.block i hi hS)⟩

/-- One sign of two, as a world's iterator tells them. -/
structure TwoIt (W : World) (c1 c2 : UInt8) : Prop where
  n0 : ∀ ty, (Instr.next (.pointer (some ⟨W.heap.size, 0, none⟩)) true ty).run Tryz.prog (W.iter ⟨#[c1, c2]⟩ 0) = .ok (.tuple #[.bool true, .int .i64 0, .int .i32 c1.toNat]) (W.iter ⟨#[c1, c2]⟩ 1)
  n1 : ∀ ty, (Instr.next (.pointer (some ⟨W.heap.size, 0, none⟩)) true ty).run Tryz.prog (W.iter ⟨#[c1, c2]⟩ 1) = .ok (.tuple #[.bool true, .int .i64 1, .int .i32 c2.toNat]) (W.iter ⟨#[c1, c2]⟩ 2)
  n2 : ∀ ty, (Instr.next (.pointer (some ⟨W.heap.size, 0, none⟩)) true ty).run Tryz.prog (W.iter ⟨#[c1, c2]⟩ 2) = .ok (.tuple #[.bool false]) (W.iter ⟨#[c1, c2]⟩ 2)
theorem twoIt (W : World) (c1 c2 : UInt8) (h1 : c1.toNat < 128) (h2 : c2.toNat < 128) : TwoIt W c1 c2 :=
  ⟨fun ty => run_next_ascii W ⟨#[c1, c2]⟩ 0 ty (by show 0 < 2; omega) h1, fun ty => run_next_ascii W ⟨#[c1, c2]⟩ 1 ty (by show 1 < 2; omega) h2, fun ty => run_next_end W ⟨#[c1, c2]⟩ 2 ty (by show ¬ 2 < 2; omega)⟩

set_option maxRecDepth 100000 in
set_option maxHeartbeats 2000000 in
/-- The first of two signs stands at place n. -/
theorem zzIndexAny_at (s : ByteArray) (c1 c2 : UInt8) (n : Nat) (w : World) (ha1 : c1.toNat < 128) (ha2 : c2.toNat < 128) (hn : n < s.size)
    (hpre : Hid (∀ i, i < n → bt s i < 128 ∧ bt s i ≠ c1.toNat ∧ bt s i ≠ c2.toNat)) (hat : bt s n = c1.toNat ∨ bt s n ≠ c1.toNat ∧ bt s n = c2.toNat) :
    Calls Tryz.prog 163 #[.string s, .string ⟨#[c1, c2]⟩] w fun e w' => e = .returned (.int .i64 n) ∧ Hid (Ch [] w w') := by
  go_enter Tryz.func163, Tryz.ntmps163
  go_wp2
  go_loopg [] (n + 1) (fun gf wx => ∃ pos : Nat, wx.heap[w.heap.size]? = some (.stringIter s pos) ∧ Hid (Ch [] w wx) ∧ pos + gf = n + 1 ∧ pos ≤ n ∧ w.heap.size < wx.heap.size)
  case atStart => exact ⟨0, World.iter_heap w s 0, (Ch.refl [] w).alloc _, by omega, by omega, by simp [World.iter]⟩
  case round =>
    obtain ⟨pos, hit, hch, hgf, hle, hlt⟩ := hrel
    obtain ⟨g', rfl⟩ : ∃ g', gk = g' + 1 := ⟨gk - 1, by omega⟩
    have hps : pos < s.size := by omega
    obtain ⟨c, hc⟩ : ∃ c, bt s pos = c := ⟨_, rfl⟩
    have hc0 : 0 ≤ c := by rw [← hc]; unfold bt; omega
    by_cases hpn : pos < n
    · obtain ⟨p1, p2, p3⟩ := hpre.out pos hpn
      rw [hc] at p1 p2 p3
      have q2 : (c == (c1.toNat : Int)) = false := beq_eq_false_iff_ne.2 p2
      have q3 : (c == (c2.toNat : Int)) = false := beq_eq_false_iff_ne.2 p3
      have hnx := next_byte wr w.heap.size s pos c hit hps hc p1
      have hit2 := Lib.iterAt_heap wr w.heap.size s pos (pos + 1) hit
      have hch2 := hch.out.iterAt (k := w.heap.size) (.inr (Nat.le_refl _)) s (pos + 1)
      have hsz : (wr.iterAt w.heap.size s (pos + 1)).heap.size = wr.heap.size := Lib.iterAt_size _ _ _ _
      obtain ⟨W, hW⟩ : ∃ W, wr.iterAt w.heap.size s (pos + 1) = W := ⟨_, rfl⟩
      rw [hW] at hnx hit2 hch2 hsz
      obtain ⟨i0, i1, i2⟩ := twoIt W c1 c2 ha1 ha2
      have HC2 := Lib.hid hch2
      have HIT2 := Lib.hid hit2
      have HSZ := Lib.hid hsz
      clear hch2 hit2 hsz hc hch hW p2 p3 hat
      go_wp2
      refine wp_loop_rounds 3 ?_
      rw [rounds_succ]
      go_wp2
      rw [rounds_succ]
      go_wp2
      rw [rounds_succ]
      go_wp2
      go_roundg g'
      case measure => omega
      case rel => exact ⟨pos + 1, (Below.heap_alloc _ _ _ (by rw [HSZ.out]; exact hlt)).trans HIT2.out, HC2.out.alloc _, by omega, by omega, by simp [World.iter, HSZ.out]; omega⟩
    · obtain rfl : pos = n := by omega
      rw [hc] at hat
      have p1 : c < 128 := by rcases hat with h | h <;> omega
      have hnx := next_byte wr w.heap.size s pos c hit hps hc p1
      have hch2 := hch.out.iterAt (k := w.heap.size) (.inr (Nat.le_refl _)) s (pos + 1)
      obtain ⟨W, hW⟩ : ∃ W, wr.iterAt w.heap.size s (pos + 1) = W := ⟨_, rfl⟩
      rw [hW] at hnx hch2
      obtain ⟨i0, i1, i2⟩ := twoIt W c1 c2 ha1 ha2
      have HC2 := Lib.hid hch2
      clear hch2 hc hch hW
      rcases hat with hat | ⟨hat1, hat2⟩
      · have q2 : (c == (c1.toNat : Int)) = true := beq_iff_eq.2 hat
        clear hat
        go_wp2
        refine wp_loop_rounds 1 ?_
        rw [rounds_succ]
        go_wp2
        go_ret
        exact ⟨rfl, HC2.out.alloc _⟩
      · have q2 : (c == (c1.toNat : Int)) = false := beq_eq_false_iff_ne.2 hat1
        have q3 : (c == (c2.toNat : Int)) = true := beq_iff_eq.2 hat2
        clear hat1 hat2
        go_wp2
        refine wp_loop_rounds 2 ?_
        rw [rounds_succ]
        go_wp2
        rw [rounds_succ]
        go_wp2
        go_ret
        exact ⟨rfl, HC2.out.alloc _⟩

set_option maxRecDepth 100000 in
set_option maxHeartbeats 2000000 in
/-- None of two signs stands in the text. -/
theorem zzIndexAny_none (s : ByteArray) (c1 c2 : UInt8) (w : World) (ha1 : c1.toNat < 128) (ha2 : c2.toNat < 128)
    (hpre : Hid (∀ i, i < s.size → bt s i < 128 ∧ bt s i ≠ c1.toNat ∧ bt s i ≠ c2.toNat)) :
    Calls Tryz.prog 163 #[.string s, .string ⟨#[c1, c2]⟩] w fun e w' => e = .returned (.int .i64 (-1)) ∧ Hid (Ch [] w w') := by
  go_enter Tryz.func163, Tryz.ntmps163
  go_wp2
  go_loopg [] (s.size + 1) (fun gf wx => ∃ pos : Nat, wx.heap[w.heap.size]? = some (.stringIter s pos) ∧ Hid (Ch [] w wx) ∧ pos + gf = s.size + 1 ∧ pos ≤ s.size ∧ w.heap.size < wx.heap.size)
  case atStart => exact ⟨0, World.iter_heap w s 0, (Ch.refl [] w).alloc _, by omega, by omega, by simp [World.iter]⟩
  case round =>
    obtain ⟨pos, hit, hch, hgf, hle, hlt⟩ := hrel
    obtain ⟨g', rfl⟩ : ∃ g', gk = g' + 1 := ⟨gk - 1, by omega⟩
    by_cases hps : pos < s.size
    · obtain ⟨c, hc⟩ : ∃ c, bt s pos = c := ⟨_, rfl⟩
      have hc0 : 0 ≤ c := by rw [← hc]; unfold bt; omega
      obtain ⟨p1, p2, p3⟩ := hpre.out pos hps
      rw [hc] at p1 p2 p3
      have q2 : (c == (c1.toNat : Int)) = false := beq_eq_false_iff_ne.2 p2
      have q3 : (c == (c2.toNat : Int)) = false := beq_eq_false_iff_ne.2 p3
      have hnx := next_byte wr w.heap.size s pos c hit hps hc p1
      have hit2 := Lib.iterAt_heap wr w.heap.size s pos (pos + 1) hit
      have hch2 := hch.out.iterAt (k := w.heap.size) (.inr (Nat.le_refl _)) s (pos + 1)
      have hsz : (wr.iterAt w.heap.size s (pos + 1)).heap.size = wr.heap.size := Lib.iterAt_size _ _ _ _
      obtain ⟨W, hW⟩ : ∃ W, wr.iterAt w.heap.size s (pos + 1) = W := ⟨_, rfl⟩
      rw [hW] at hnx hit2 hch2 hsz
      obtain ⟨i0, i1, i2⟩ := twoIt W c1 c2 ha1 ha2
      have HC2 := Lib.hid hch2
      have HIT2 := Lib.hid hit2
      have HSZ := Lib.hid hsz
      clear hch2 hit2 hsz hc hch hW p2 p3
      go_wp2
      refine wp_loop_rounds 3 ?_
      rw [rounds_succ]
      go_wp2
      rw [rounds_succ]
      go_wp2
      rw [rounds_succ]
      go_wp2
      go_roundg g'
      case measure => omega
      case rel => exact ⟨pos + 1, (Below.heap_alloc _ _ _ (by rw [HSZ.out]; exact hlt)).trans HIT2.out, HC2.out.alloc _, by omega, by omega, by simp [World.iter, HSZ.out]; omega⟩
    · have hnx := next_end wr w.heap.size s pos hit hps
      go_wp2
      go_ret
      exact ⟨rfl, hch⟩

theorem conv_bytes (w : World) (b off n cap : Nat) (l : List UInt8) (hn : l.length = n) (hc : ∀ j c, l[j]? = some c → w.cell? ⟨b, off + j, none⟩ = some (.int .u8 c.toNat)) :
    (convert 78 9 (.slice (some ⟨b, off, none⟩) n cap)).run Tryz.prog w = .ok (.string ⟨l.toArray⟩) w := by
  have h := run_convert_bytes_arg (P := Tryz.prog) w 78 5 Tryz.underlying78 (by kernel_rfl) b off n cap (intsOf l) (by simp [intsOf, hn]) (fun i hi => by
    have hi' : i < l.length := by omega
    rw [hc i l[i] (List.getElem?_eq_getElem hi')]
    simp [intsOf, List.getD, hi']) 9 (by kernel_rfl)
  have e : strOfNums (intsOf l) = ⟨l.toArray⟩ := by
    apply ByteArray.ext
    apply Array.toList_inj.1
    rw [strOfNums_data]
    unfold intsOf
    rw [List.map_map]
    conv => rhs; rw [show (⟨l.toArray⟩ : ByteArray).data.toList = l from rfl, ← List.map_id l]
    refine List.map_congr_left fun c _ => ?_
    simp
  rw [e] at h
  exact h

set_option maxHeartbeats 400000 in
/-- Behind a section's ]: the newline alone. -/
theorem cleanComment_nl (b off cap : Nat) (w : World) (hc : w.cell? ⟨b, off, none⟩ = some (.int .u8 10)) :
    Calls Tryz.prog 140 #[.slice (some ⟨b, off, none⟩) 1 cap] w fun e w' => e = .returned (.tuple #[.slice none 0 0, .bool false]) ∧ Hid (Ch [] w w') := by
  have hcv := conv_bytes w b off 1 cap [10] rfl (fun j c h => by
    cases j with
    | zero => simp at h; subst h; exact hc
    | succ j => simp at h)
  have HN : Hid (∀ i, i < (⟨#[10]⟩ : ByteArray).size → bt ⟨#[10]⟩ i < 128 ∧ bt ⟨#[10]⟩ i ≠ (35 : UInt8).toNat ∧ bt ⟨#[10]⟩ i ≠ (59 : UInt8).toNat) := fun i hi => by
    have : i = 0 := by
      have : i < 1 := hi
      omega
    subst this
    decide
  clear hc
  go_enter Tryz.func140, Tryz.ntmps140
  go_wp2_with (go_at_call 163; refine (zzIndexAny_none ⟨#[10]⟩ 35 59 _ (by decide) (by decide) HN).mono ?_; rintro e w' ⟨rfl, HC⟩)
  go_ret2
  exact ⟨rfl, HC⟩

def bufCells : List Value := [.slice none 0 0, .int .i64 0, .int .i8 0]

set_option maxHeartbeats 400000 in
theorem bufString_nil (cb : Nat) (w : World) (h : Blk w cb 229 bufCells) :
    Calls Tryz.prog 141 #[.pointer (some ⟨cb, 0, none⟩)] w fun e w' => e = .returned (.string es) ∧ Hid (Dr w w') := by
  have hc := h.cells
  simp only [bufCells] at hc
  have hcv : ∀ W, (convert 78 9 (.slice none 0 0)).run Tryz.prog W = .ok (.string es) W := fun W => by kernel_rfl
  clear h
  go_enter Tryz.func141, Tryz.ntmps141
  go_wp2
  go_quiet (fail)
  go_wp2
  go_ret
  exact ⟨rfl, (Dr.refl w).drewN _⟩

set_option maxHeartbeats 400000 in
theorem bufReset_nil (cb : Nat) (w : World) (h : Blk w cb 229 bufCells) :
    Calls Tryz.prog 142 #[.pointer (some ⟨cb, 0, none⟩)] w fun e w' => e = .returned (.tuple #[]) ∧ Hid (Blk w' cb 229 bufCells) ∧ Hid (Ch [cb] w w') := by
  have hc := h.cells
  have hf := h.frees
  simp only [bufCells] at hc
  have HB := Lib.hid h
  clear h
  go_enter Tryz.func142, Tryz.ntmps142
  go_wp2
  go_end0
  exact ⟨rfl, ((HB.out.set 0 _).set 1 _).set 2 _, (((Ch.refl [cb] w).set (by simp) _).set (by simp) _).set (by simp) _⟩

set_option maxHeartbeats 400000 in
theorem trimSpace_nil (w : World) : Calls Tryz.prog 86 #[.string es] w fun e w' => e = .returned (.string es) ∧ Hid (Ch [] w w') := by
  have hcv := Lib.run_convert_string_bytes (P := Tryz.prog) w 9 78 5 es (u := .string) Tryz.underlying9 Tryz.underlying78 (by kernel_rfl)
  obtain ⟨W, hW⟩ : ∃ W, Lib.bytesWorld w 5 es = W := ⟨_, rfl⟩
  have HC : Hid (Ch [] w W) := by
    rw [← hW]
    exact ⟨rfl, rfl, rfl, by rw [Lib.bytesWorld_size]; omega, fun k hk _ => Lib.bytesWorld_at_old w 5 es k hk⟩
  rw [hW] at hcv
  clear hW
  go_enter Tryz.func86, Tryz.ntmps86
  go_wp2
  refine wp_loop_rounds 1 ?_
  rw [rounds_succ]
  go_wp2
  go_ret
  exact ⟨rfl, HC⟩

set_option maxRecDepth 100000 in
set_option maxHeartbeats 1000000 in
/-- A text that begins with no blank, or with one. -/
theorem trimLeftS_any (s : ByteArray) (n : Nat) (v : Int) (w : World) (hn : n ≤ 1) (hns : n < s.size) (hb : n = 1 → bt s 0 = 32) (hv : bt s n = v) (ha : v < 128) (hs : isSpc v = false) :
    Calls Tryz.prog 122 #[.string s, .func (.func 112) #[] #[]] w fun e w' => e = .returned (.string (s.extract n s.size)) ∧ Hid (Ch [] w w') := by
  have hv0 : 0 ≤ v := by rw [← hv]; unfold bt; omega
  have HS : Hid (∀ w, Calls Tryz.prog 112 #[.int .i32 v] w fun e w' => e = .returned (.bool false) ∧ w = w') := fun w => by rw [← hs]; exact isSpace_any v w hv0 ha
  have HB : Hid (∀ w, Calls Tryz.prog 112 #[.int .i32 32] w fun e w' => e = .returned (.bool true) ∧ w = w') := fun w => isSpace_any 32 w (by decide) (by decide)
  have HI : Hid (∀ w, Calls Tryz.prog 127 #[.string s, .func (.func 112) #[] #[], .bool false] w fun e w' => e = .returned (.int .i64 n) ∧ Hid (Ch [] w w')) := fun w => by
    have hit := World.iter_heap w s 0
    rcases (show n = 0 ∨ n = 1 by omega) with rfl | rfl
    · have hnx := next_byte (w.iter s 0) w.heap.size s 0 v hit hns hv ha
      have HC : Hid (Ch [] w ((w.iter s 0).iterAt w.heap.size s (0 + 1))) := ((Ch.refl [] w).alloc _).iterAt (.inr (Nat.le_refl _)) s _
      obtain ⟨W, hW⟩ : ∃ W, (w.iter s 0).iterAt w.heap.size s (0 + 1) = W := ⟨_, rfl⟩
      rw [hW] at hnx HC
      clear hW hit hs hv hb
      go_enter Tryz.func127, Tryz.ntmps127
      go_wp2
      refine wp_loop_rounds 1 ?_
      rw [rounds_succ]
      go_wp2_with (go_at_call 112; refine (HS.out _).mono ?_; rintro e w' ⟨rfl, rfl⟩)
      go_ret
      exact ⟨rfl, HC⟩
    · have hnx := next_byte (w.iter s 0) w.heap.size s 0 32 hit (by omega) (hb rfl) (by decide)
      have hit2 := Lib.iterAt_heap (w.iter s 0) w.heap.size s 0 (0 + 1) hit
      have hch2 : Ch [] w ((w.iter s 0).iterAt w.heap.size s (0 + 1)) := ((Ch.refl [] w).alloc _).iterAt (.inr (Nat.le_refl _)) s _
      obtain ⟨W, hW⟩ : ∃ W, (w.iter s 0).iterAt w.heap.size s (0 + 1) = W := ⟨_, rfl⟩
      rw [hW] at hnx hit2 hch2
      have hnx2 := next_byte W w.heap.size s 1 v hit2 hns hv ha
      have HC : Hid (Ch [] w (W.iterAt w.heap.size s (1 + 1))) := hch2.iterAt (.inr (Nat.le_refl _)) s _
      obtain ⟨V, hV⟩ : ∃ V, W.iterAt w.heap.size s (1 + 1) = V := ⟨_, rfl⟩
      rw [hV] at hnx2 HC
      clear hW hV hit hit2 hch2 hs hv hb
      go_enter Tryz.func127, Tryz.ntmps127
      go_wp2
      refine wp_loop_rounds 2 ?_
      rw [rounds_succ]
      go_wp2_with (go_at_call 112; refine (HB.out _).mono ?_; rintro e w' ⟨rfl, rfl⟩)
      rw [rounds_succ]
      go_wp2_with (go_at_call 112; refine (HS.out _).mono ?_; rintro e w' ⟨rfl, rfl⟩)
      go_ret
      exact ⟨rfl, HC⟩
  clear hs hv hb
  have hle : n ≤ s.size := by omega
  go_enter Tryz.func122, Tryz.ntmps122
  go_wp2_with (go_at_call 127; refine (HI.out _).mono ?_; rintro e w' ⟨rfl, HC⟩)
  go_ret
  exact ⟨rfl, HC⟩
end Go.Proofs.YtfnncdngfggcjaaGreatDoor
