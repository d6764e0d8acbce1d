/- Contracts of varPattern, ZZEnds, ends, Key.String at a text without the sign %. -/
import Derived.Test.YtfnncdngfggcjaaGreatDoorLs
namespace Go.Proofs.YtfnncdngfggcjaaGreatDoor
open Go.RowKit

/-- No sign % stands in the text. -/
def NoPct (s : ByteArray) : Prop := ∀ i, i < s.size → bt s i ≠ 37

set_option maxHeartbeats 1000000 in
theorem varPattern_none (s : ByteArray) (w : World) (hs : s.size ≤ 140737488351232) (hno : Hid (NoPct s)) :
    Calls Tryz.prog 99 #[.string s] w fun e w' => e = .returned (.string es) ∧ w = w' := by
  go_enter Tryz.func99, Tryz.ntmps99
  go_wp2
  go_loop [3] (fun i => ∃ k : Nat, k ≤ s.size ∧ i = .int .i64 k) (fun i => s.size - (intOf i).toNat)
  case atStart => exact ⟨0, Nat.zero_le _, rfl⟩
  case round =>
    obtain ⟨k, hk, rfl⟩ := hrel
    by_cases hlt : k + 2 < s.size
    · have hlt' : k < s.size := by omega
      have hne : ¬ (s[k].toNat : Int) = 37 := by
        rw [bt_get s k hlt']; exact hno.out k hlt'
      have hne2 : ((s[k].toNat : Int) == 37) = false := beq_eq_false_iff_ne.2 hne
      have hne3 : ((s[k].toNat : Int) != 37) = true := by rw [bne, hne2]; rfl
      go_wp2
      go_round
      case rel => exact ⟨k + 1, by omega, by go_num⟩
      case measure => simp [intOf]; omega
    · go_wp2
      go_ret
      exact ⟨rfl, rfl⟩

set_option maxRecDepth 100000 in
set_option maxHeartbeats 1000000 in
theorem zzEnds_plain (kb sb bb : Nat) (com kname v : ByteArray) (auto shd : Bool) (shv : Value) (w : World) (hk : Blk w kb 107 (keyCells sb com kname v auto shd shv)) (hb : Blk w bb 3 [.int .i64 2000]) (hv : v.size ≤ 4096) (hno : Hid (NoPct v)) :
    Calls Tryz.prog 75 #[ptr kb, .pointer (some ⟨bb, 0, none⟩), .int .i64 20] w fun e w' => e = .returned (.tuple #[.string v, .bool true]) ∧ Ch [bb] w w' := by
  have hc := hk.cells
  simp only [keyCells] at hc
  have hcb := hb.cells
  have hfb := hb.frees
  have hv1 : decide ((16384 : Int) < (v.size : Int)) = false := decide_eq_false (by omega)
  have hv2 : ¬ ((16384 : Int) < (v.size : Int)) := by omega
  have hv3 : (v.size : Int) ≤ 16384 := by omega
  unfold ptr
  clear hk hb
  go_enter Tryz.func75, Tryz.ntmps75
  go_wp2
  refine wp_loop_rounds 1 ?_
  rw [rounds_succ]
  go_wp2_with (go_at_call 99; refine (varPattern_none v _ (by omega) hno).mono ?_; rintro e w' ⟨rfl, rfl⟩)
  refine bodyPost_ret (results_tmp2 rfl _ _ _) rfl ?_
  exact ⟨rfl, (Ch.refl [bb] w).set (.inl (by simp)) _⟩

set_option maxRecDepth 100000 in
set_option maxHeartbeats 1000000 in
theorem ends_plain (kb sb : Nat) (com kname v : ByteArray) (auto shd : Bool) (shv : Value) (w : World) (hk : Blk w kb 107 (keyCells sb com kname v auto shd shv)) (hv : v.size ≤ 4096) (hno : Hid (NoPct v)) :
    Calls Tryz.prog 55 #[ptr kb] w fun e w' => e = .returned (.bool true) ∧ Ch [] w w' := by
  have HK := Lib.hid (hk.alloc (.cells #[.int .i64 2000] 3))
  have HB := Lib.hid (Blk.new w 3 [.int .i64 2000])
  clear hk
  unfold ptr
  go_enter Tryz.func55, Tryz.ntmps55
  go_wp2_with (go_at_call 75; refine (zzEnds_plain kb sb w.heap.size com kname v auto shd shv _ HK.out HB.out hv hno).mono ?_; rintro e w' ⟨rfl, hch⟩)
  go_ret
  exact ⟨rfl, ((Ch.refl [] w).alloc _).trans hch (fun x hx => .inr (by simp at hx; omega))⟩

set_option maxRecDepth 100000 in
set_option maxHeartbeats 1000000 in
theorem transformValue_plain (kb sb fb : Nat) (com kname kv v scom sname : ByteArray) (auto shd sh : Bool) (shv klv dsv slv siv : Value) (km kh mb : Nat) (w : World) (hk : Blk w kb 107 (keyCells sb com kname kv auto shd shv))
    (hs : Blk w sb 96 (secCells fb scom sname km klv kh)) (hf : Blk w fb 102 (fileCells sh dsv slv siv mb)) (hv : v.size ≤ 4096) (hno : Hid (NoPct v)) :
    Calls Tryz.prog 76 #[ptr kb, .string v] w fun e w' => e = .returned (.string v) ∧ w = w' := by
  have hcf := hf.cells 28
  have hcs := hs.cells 0
  have hck := hk.cells 0
  simp only [fileCells, secCells, keyCells] at hcf hcs hck
  have hz : Hid (∀ i, i + (⟨#[37]⟩ : ByteArray).size ≤ v.size → (v.extract i (i + (⟨#[37]⟩ : ByteArray).size)).toList ≠ (⟨#[37]⟩ : ByteArray).toList) := fun i hi he => by
    have hi' : i < v.size := by
      have : (⟨#[37]⟩ : ByteArray).size = 1 := rfl
      omega
    refine hno.out i hi' ?_
    have h1 : v.extract i (i + 1) = ⟨#[37]⟩ := by
      have := ba_of_list he
      rw [← ba_of_list (rfl : (⟨#[37]⟩ : ByteArray).toList = _)] at this
      exact this
    have h2 := congrArg (fun z : ByteArray => z.data.toList) h1
    simp only [ByteArray.data_extract, Array.toList_extract, List.extract_eq_take_drop] at h2
    have h3 : v.data.toList[i]? = some 37 := by
      have := congrArg (fun z : List UInt8 => z[0]?) h2
      simpa [List.getElem?_take, List.getElem?_drop] using this
    unfold bt
    rw [List.getD_eq_getElem?_getD, h3]; rfl
  have hbin : ∀ W, (binOp .neq 100 .nilFunc .nilFunc).run Tryz.prog W = .ok (.bool false) W := fun _ => by kernel_rfl
  unfold ptr
  clear hk hs hf
  go_enter Tryz.func76, Tryz.ntmps76
  go_wp2_with (go_at_call 101; refine (zzIndex_none v ⟨#[37]⟩ _ (by omega) (by decide) hz).mono ?_; rintro e w' ⟨rfl, rfl⟩)
  go_ret
  exact ⟨rfl, rfl⟩

set_option maxRecDepth 100000 in
set_option maxHeartbeats 1000000 in
theorem keyString_plain (kb sb fb : Nat) (com kname v scom sname : ByteArray) (auto shd sh : Bool) (shv klv dsv slv siv : Value) (km kh mb : Nat) (w : World) (hk : Blk w kb 107 (keyCells sb com kname v auto shd shv))
    (hs : Blk w sb 96 (secCells fb scom sname km klv kh)) (hf : Blk w fb 102 (fileCells sh dsv slv siv mb)) (hv : v.size ≤ 4096) (hno : Hid (NoPct v)) :
    Calls Tryz.prog 56 #[ptr kb] w fun e w' => e = .returned (.string v) ∧ w = w' := by
  have H := Lib.hid (transformValue_plain kb sb fb com kname v v scom sname auto shd sh shv klv dsv slv siv km kh mb w hk hs hf hv hno)
  have hck := hk.cells 3
  simp only [keyCells] at hck
  clear hk hs hf
  unfold ptr
  go_enter Tryz.func56, Tryz.ntmps56
  go_wp2_with (go_at_call 76; refine H.out.mono ?_; rintro e w' ⟨rfl, rfl⟩)
  go_ret
  exact ⟨rfl, rfl⟩
end Go.Proofs.YtfnncdngfggcjaaGreatDoor
