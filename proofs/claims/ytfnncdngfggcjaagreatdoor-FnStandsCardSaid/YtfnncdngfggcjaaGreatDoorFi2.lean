/- Contracts of zzLastIndex at a point, and of GetKey where a parent has the key, or nobody. -/
import Derived.Test.YtfnncdngfggcjaaGreatDoorFi1
import Derived.Test.YtfnncdngfggcjaaGreatDoorLf4
namespace Go.Proofs.YtfnncdngfggcjaaGreatDoor
open Go.RowKit

theorem extract_one (s : ByteArray) (k : Nat) (h : k < s.size) : (s.extract k (k + 1)).toList = [s.data.toList[k]'(by rw [toList_length]; exact h)] := by
  rw [ByteArray.toList_eq, ByteArray.data_extract, Array.toList_extract, List.extract_eq_take_drop, List.drop_eq_getElem_cons (by rw [toList_length]; exact h), show k + 1 - k = 1 by omega]
  rfl
theorem one_eq (s : ByteArray) (k : Nat) (h : k < s.size) (c : UInt8) : ((s.extract k (k + 1)).toList == [c]) = decide (bt s k = (c.toNat : Int)) := by
  rw [extract_one s k h]
  have h1 : s.data.toList[k]? = some (s.data.toList[k]'(by rw [toList_length]; exact h)) := List.getElem?_eq_getElem _
  have h2 := bt_at h1
  rw [h2, Bool.eq_iff_iff]
  simp only [beq_iff_eq, List.cons.injEq, and_true, decide_eq_true_eq]
  constructor
  · intro e; rw [e]
  · intro e; exact UInt8.toNat_inj.1 (by omega)

set_option maxHeartbeats 1000000 in
theorem zzLastIndex_at (s : ByteArray) (p : Nat) (w : World) (hs : s.size ≤ 4096) (hp : p < s.size) (hat : bt s p = 46) (hno : Hid (∀ j, p < j → j < s.size → bt s j ≠ 46)) :
    Calls Tryz.prog 66 #[.string s, .string ⟨#[46]⟩] w fun e w' => e = .returned (.int .i64 p) ∧ w = w' := by
  have e1 : IntKind.i64.wrap ((s.size : Int) - 1) = (s.size : Int) - 1 := IntWalk.i64_in _ (by omega)
  go_enter Tryz.func66, Tryz.ntmps66
  go_wp2
  go_loop [5] (fun i => ∃ k : Nat, p ≤ k ∧ k < s.size ∧ i = .int .i64 k) (fun i => (intOf i).toNat)
  case atStart => exact ⟨s.size - 1, by omega, by omega, by congr 1; omega⟩
  case round =>
    obtain ⟨k, hk1, hk2, rfl⟩ := hrel
    have hone := one_eq s k hk2 46
    have hk0 : (0 : Int) ≤ (k : Int) := by omega
    by_cases hpk : p = k
    · subst hpk
      rw [hat] at hone
      have hq : ((s.extract p (p + 1)).toList == [46]) = true := hone.trans (by decide)
      clear hone hat
      go_wp2
      go_ret
      exact ⟨rfl, rfl⟩
    · have hq : ((s.extract k (k + 1)).toList == [46]) = false := hone.trans (decide_eq_false (hno.out k (by omega) hk2))
      have e2 : IntKind.i64.wrap ((k : Int) - 1) = (k : Int) - 1 := IntWalk.i64_in _ (by omega)
      clear hone
      go_wp2
      go_round
      case rel => exact ⟨k - 1, by omega, by omega, by congr 1; omega⟩
      case measure => simp [intOf]; omega

set_option maxHeartbeats 1000000 in
theorem zzLastIndex_none (s : ByteArray) (w : World) (hs : s.size ≤ 4096) (hno : Hid (∀ j, j < s.size → bt s j ≠ 46)) :
    Calls Tryz.prog 66 #[.string s, .string ⟨#[46]⟩] w fun e w' => e = .returned (.int .i64 (-1)) ∧ w = w' := by
  have e1 : IntKind.i64.wrap ((s.size : Int) - 1) = (s.size : Int) - 1 := IntWalk.i64_in _ (by omega)
  go_enter Tryz.func66, Tryz.ntmps66
  go_wp2
  go_loop [5] (fun i => ∃ k : Int, -1 ≤ k ∧ k < s.size ∧ i = .int .i64 k) (fun i => (intOf i + 1).toNat)
  case atStart => exact ⟨(s.size : Int) - 1, by omega, by omega, rfl⟩
  case round =>
    obtain ⟨k, hk1, hk2, rfl⟩ := hrel
    by_cases hk0 : 0 ≤ k
    · obtain ⟨k, rfl⟩ : ∃ n : Nat, k = n := ⟨k.toNat, by omega⟩
      have hone := one_eq s k (by omega) 46
      have hq : ((s.extract k (k + 1)).toList == [46]) = false := hone.trans (decide_eq_false (hno.out k (by omega)))
      have e2 : IntKind.i64.wrap ((k : Int) - 1) = (k : Int) - 1 := IntWalk.i64_in _ (by omega)
      clear hone
      go_wp2
      go_round
      case rel => exact ⟨(k : Int) - 1, by omega, by omega, rfl⟩
      case measure => simp [intOf] <;> omega
    · go_wp2
      go_ret
      exact ⟨rfl, rfl⟩

section
variable {B : Nat} {own : Nat → Nat} {fb : Nat} {sh : Bool} {σ : List SecA} {dsv slv siv : Value} {mb i : Nat} {s : SecA}

set_option maxRecDepth 100000 in
set_option maxHeartbeats 1000000 in
/-- A key that the section lacks, and that its parent tells. -/
theorem getKey_up (w : World) (name : ByteArray) (p i2 : Nat) (s2 : SecA) (kb : Nat) (hF : FileOK B own w fb sh σ dsv slv siv mb) (hi : σ[i]? = some s) (hno : name ∉ s.keys.map (·.name)) (hsz : s.name.size ≤ 4096) (hp : p < s.name.size) (hat : bt s.name p = 46)
    (hlast : Hid (∀ j, p < j → j < s.name.size → bt s.name j ≠ 46)) (hi2 : σ[i2]? = some s2) (hpre : s.name.extract 0 p = s2.name) (hpos : 0 < s2.name.size)
    (hrec : Calls Tryz.prog 46 #[ptr s2.sb, .string name] w fun e w' => e = .returned (.tuple #[ptr kb, .nilIface]) ∧ w = w') :
    Calls Tryz.prog 46 #[ptr s.sb, .string name] w fun e w' => e = .returned (.tuple #[ptr kb, .nilIface]) ∧ w = w' := by
  have hcf := hF.file.cells
  simp only [fileCells] at hcf
  have hs := hF.secs i s hi
  have hcs := hs.sec.cells
  simp only [secCells] at hcs
  have hlk := hs.lookNone hno
  have HGS := Lib.hid (getSection_found w hF hi2 hpos)
  have HLI := Lib.hid (zzLastIndex_at s.name p w hsz hp hat hlast)
  have HREC := Lib.hid hrec
  have hpi : (-1 : Int) < (p : Int) := by omega
  have hple : p ≤ s.name.size := by omega
  obtain ⟨sn, hsn⟩ : ∃ sn, s.name = sn := ⟨_, rfl⟩
  rw [hsn] at hcs hpre HLI hple hp hsz
  rw [← hpre] at HGS
  clear hF hi hno hs hat hlast hi2 hpos hrec hsn hpre
  unfold ptr at *
  go_enter Tryz.func46, Tryz.ntmps46
  go_wp2
  refine wp_loop_rounds 1 ?_
  rw [rounds_succ]
  go_wp2_with (first
    | (go_at_call 66; refine HLI.out.mono ?_; rintro e w' ⟨rfl, rfl⟩)
    | (go_at_call 41; refine HGS.out.mono ?_; rintro e w' ⟨rfl, rfl⟩)
    | (go_at_call 46; refine HREC.out.mono ?_; rintro e w' ⟨rfl, rfl⟩))
  go_ret2
  exact ⟨rfl, rfl⟩

set_option maxRecDepth 100000 in
set_option maxHeartbeats 1000000 in
/-- A key that a section without a point in its name lacks. -/
theorem getKey_none (w : World) (name : ByteArray) (hF : FileOK B own w fb sh σ dsv slv siv mb) (hi : σ[i]? = some s) (hno : name ∉ s.keys.map (·.name)) (hsz : s.name.size ≤ 4096) (hdot : Hid (∀ j, j < s.name.size → bt s.name j ≠ 46)) :
    Calls Tryz.prog 46 #[ptr s.sb, .string name] w fun e w' => e = .returned (.tuple #[.pointer none, .iface 138 (.pointer (some ⟨w.heap.size, 0, none⟩))]) ∧ Hid (Ch [] w w') := by
  have hcf := hF.file.cells
  simp only [fileCells] at hcf
  have hs := hF.secs i s hi
  have hcs := hs.sec.cells
  simp only [secCells] at hcs
  have hlk := hs.lookNone hno
  have HLI := Lib.hid (zzLastIndex_none s.name w hsz hdot)
  clear hF hi hno hs hdot hsz
  unfold ptr at *
  go_enter Tryz.func46, Tryz.ntmps46
  go_wp2
  refine wp_loop_rounds 1 ?_
  rw [rounds_succ]
  go_wp2_with (first
    | (go_at_call 66; refine HLI.out.mono ?_; rintro e w' ⟨rfl, rfl⟩)
    | (go_at_call 67; refine (errorsNew_any _ _).mono ?_; rintro e w' ⟨rfl, rfl⟩))
  go_ret2
  exact ⟨rfl, (Ch.refl [] w).alloc _⟩
end
end Go.Proofs.YtfnncdngfggcjaaGreatDoor
