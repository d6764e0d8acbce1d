/- Contract of readValue at a plain value. -/
import Derived.Test.YtfnncdngfggcjaaGreatDoorLf3
namespace Go.Proofs.YtfnncdngfggcjaaGreatDoor
open Go.RowKit

/-- What stands behind the sign of equality: a blank, the value, the newline. -/
def restOf (v : ByteArray) : ByteArray := ⟨(32 :: (v.data.toList ++ [10])).toArray⟩
def lineOf (v : ByteArray) : ByteArray := ⟨(v.data.toList ++ [10]).toArray⟩

theorem bt_list (l : List UInt8) (i : Nat) : bt ⟨l.toArray⟩ i = ((l.getD i 0).toNat : Int) := rfl
theorem size_list (l : List UInt8) : (⟨l.toArray⟩ : ByteArray).size = l.length := rfl
theorem toList_length (v : ByteArray) : v.data.toList.length = v.size := Array.length_toList

theorem lineOf_size (v : ByteArray) : (lineOf v).size = v.size + 1 := by
  unfold lineOf; rw [size_list, List.length_append, toList_length]; rfl
theorem restOf_size (v : ByteArray) : (restOf v).size = v.size + 2 := by
  unfold restOf; rw [size_list, List.length_cons, List.length_append, toList_length]; rfl
theorem lineOf_lt (v : ByteArray) (i : Nat) (h : i < v.size) : bt (lineOf v) i = bt v i := by
  unfold lineOf bt
  show (((v.data.toList ++ [10]).getD i 0).toNat : Int) = _
  rw [List.getD_eq_getElem?_getD, List.getD_eq_getElem?_getD, List.getElem?_append_left (by rw [toList_length]; exact h)]
theorem lineOf_end (v : ByteArray) : bt (lineOf v) v.size = 10 := by
  unfold lineOf bt
  show (((v.data.toList ++ [10]).getD v.size 0).toNat : Int) = _
  rw [List.getD_eq_getElem?_getD, List.getElem?_append_right (by rw [toList_length]; exact Nat.le_refl _), toList_length, Nat.sub_self]
  rfl
theorem restOf_tail (v : ByteArray) : (restOf v).extract 1 (restOf v).size = lineOf v := by
  apply ba_ext
  rw [restOf_size]
  unfold restOf lineOf
  rw [ByteArray.data_extract, Array.toList_extract, List.extract_eq_take_drop]
  show ((32 :: (v.data.toList ++ [10])).drop 1).take (v.size + 2 - 1) = v.data.toList ++ [10]
  rw [List.drop_succ_cons, List.drop_zero, List.take_of_length_le]
  rw [List.length_append, toList_length]
  show v.size + 1 ≤ _
  omega
theorem restOf_one (v : ByteArray) (i : Nat) : bt (restOf v) (i + 1) = bt (lineOf v) i := rfl

theorem isSp_of {c : UInt8} (h : isSpc (c.toNat : Int) = false) : Lib.isSp c = false := by
  unfold isSpc at h
  unfold Lib.isSp
  have h' := of_decide_eq_false h
  simp only [Bool.or_eq_false_iff, beq_eq_false_iff_ne, ne_eq]
  refine ⟨⟨⟨⟨⟨?_, ?_⟩, ?_⟩, ?_⟩, ?_⟩, ?_⟩ <;> (intro e; subst e; exact h' (by decide))

theorem bt_at {v : ByteArray} {i : Nat} {c : UInt8} (h : v.data.toList[i]? = some c) : bt v i = (c.toNat : Int) := by
  unfold bt; rw [List.getD_eq_getElem?_getD, h]; rfl
theorem vch_spc {c : Int} (h : vch c = true) (h32 : c ≠ 32) : isSpc c = false := by
  unfold vch isLetter at h
  unfold isSpc
  simp at h ⊢
  omega

theorem ValB.trim {v : ByteArray} (h : ValB v) : Lib.trimSpace (lineOf v).data.toList = v.data.toList := by
  have h1 := Lib.trimSpace_cut (lineOf v).data.toList 0 (v.size - 1) (Nat.zero_le _) (by rw [toList_length, lineOf_size]; omega)
    (fun j b hj => absurd hj (Nat.not_lt_zero _))
    (fun b hb => isSp_of (by rw [← bt_at hb, lineOf_lt v 0 h.pos]; exact vch_spc (h.ch 0 h.pos) h.first))
    (fun b hb => isSp_of (by rw [← bt_at hb, lineOf_lt v _ (by have := h.pos; omega)]; exact vch_spc (h.ch _ (by have := h.pos; omega)) h.last))
    (fun j b hj hb => by
      have hl : j < (lineOf v).data.toList.length := (List.getElem?_eq_some_iff.1 hb).1
      rw [toList_length, lineOf_size] at hl
      have : j = v.size := by omega
      subst this
      have e := bt_at hb
      rw [lineOf_end] at e
      have e2 : b = 10 := UInt8.toNat_inj.1 (by
        have : ((10 : Int)) = (b.toNat : Int) := e
        show b.toNat = 10
        omega)
      subst e2; decide)
  rw [h1, List.drop_zero]
  have h2 : v.size - 1 + 1 - 0 = v.size := by have := h.pos; omega
  rw [h2]
  unfold lineOf
  show (v.data.toList ++ [10]).take v.size = _
  rw [List.take_append_of_le_length (by rw [toList_length]; exact Nat.le_refl _), List.take_of_length_le (by rw [toList_length]; exact Nat.le_refl _)]

set_option maxRecDepth 100000 in
set_option maxHeartbeats 2000000 in
theorem readValue_plain (v : ByteArray) (pb rb cb : Nat) (eof : Bool) (cnt : Int) (b off m cap : Nat) (w : World) (hv : ValB v) (hm : v.size + 2 = m)
    (hp : Blk w pb 206 (parCells rb cb eof cnt)) (hc : Hid (∀ j c, (restOf v).data.toList[j]? = some c → w.cell? ⟨b, off + j, none⟩ = some (.int .u8 c.toNat))) (ht : Hid (SpcTab w)) :
    Calls Tryz.prog 146 #[.pointer (some ⟨pb, 0, none⟩), .slice (some ⟨b, off, none⟩) m cap, .int .i64 0] w fun e w' => e = .returned (.tuple #[.string v, .nilIface]) ∧ Hid (Ch [] w w') := by
  subst hm
  have hcv := conv_ba w b off (v.size + 2) cap (restOf v) (restOf_size v) hc.out
  have hpos := hv.pos
  have hmax := hv.max
  have f0 := vch_facts (hv.ch 0 hpos)
  have hl0 := lineOf_lt v 0 hpos
  have hsp := vch_spc (hv.ch 0 hpos) hv.first
  have HT := Lib.hid (trimLeftS_any (restOf v) 1 (bt v 0) w (Nat.le_refl _) (by rw [restOf_size]; omega) (fun _ => rfl) (by rw [← hl0]; rfl) f0.2.1 hsp)
  rw [restOf_tail] at HT
  obtain ⟨T, hT⟩ : ∃ T, lineOf v = T := ⟨_, rfl⟩
  have hTs : T.size = v.size + 1 := by rw [← hT]; exact lineOf_size v
  have hT0 : bt T 0 = bt v 0 := by rw [← hT]; exact hl0
  have HTA : Hid (∀ i, i < T.size → bt T i < 128) := fun i hi => by
    rw [← hT] at hi ⊢
    rw [lineOf_size] at hi
    by_cases h : i < v.size
    · rw [lineOf_lt v i h]; exact (vch_facts (hv.ch i h)).2.1
    · have : i = v.size := by omega
      subst this
      rw [lineOf_end]; decide
  have HTR : Hid (Lib.trimSpace T.data.toList = v.data.toList) := by rw [← hT]; exact hv.trim
  rw [hT] at HT
  clear hT hl0 hsp
  have hTpos : 0 < T.size := by omega
  have hTmax : T.size ≤ 4001 := by omega
  have q96 : ((T[0].toNat : Int) == 96) = false := beq_eq_false_iff_ne.2 (by rw [bt_get T 0 hTpos, hT0]; exact f0.2.2.2.2.1)
  have q3 : ((T.extract 0 3).toList == [34, 34, 34]) = false := beq_eq_false_iff_ne.2 fun e => by
    have h1 := congrArg (fun z : List UInt8 => z[0]?) e
    rw [ByteArray.toList_eq] at h1
    simp only [ByteArray.data_extract, Array.toList_extract, List.extract_eq_take_drop] at h1
    have h2 : T.data.toList[0]? = some 34 := by simpa [List.getElem?_take] using h1
    have h3 := bt_at h2
    rw [hT0] at h3
    exact f0.2.2.1 h3
  have ql : ((v[v.size - 1].toNat : Int) == 92) = false := beq_eq_false_iff_ne.2 (by rw [bt_get v (v.size - 1) (by omega)]; exact (vch_facts (hv.ch _ (by omega))).2.2.2.2.2.2.2)
  have HI : Hid (∀ W, Calls Tryz.prog 163 #[.string v, .string ⟨#[35, 59]⟩] W fun e w' => e = .returned (.int .i64 (-1)) ∧ Hid (Ch [] W w')) := fun W => zzIndexAny_none v 35 59 W (by decide) (by decide) (fun i hi => by
    have := vch_facts (hv.ch i hi)
    exact ⟨this.2.1, this.2.2.2.2.2.1, this.2.2.2.2.2.2.1⟩)
  have HQ1 : Hid (∀ W, Calls Tryz.prog 169 #[.string v, .int .u8 39] W fun e w' => e = .returned (.bool false) ∧ W = w') := fun W => hasQuote_no v 39 W hpos f0.2.2.2.1
  have HQ2 : Hid (∀ W, Calls Tryz.prog 169 #[.string v, .int .u8 34] W fun e w' => e = .returned (.bool false) ∧ W = w') := fun W => hasQuote_no v 34 W hpos f0.2.2.1
  have HP := Lib.hid hp
  have hcp := hp.cells
  simp only [parCells] at hcp
  have hvs : v.size - 1 < v.size := by omega
  have HTS := Lib.hid hTs
  clear hv f0 hT0 hp
  by_cases h3 : (3 : Int) < (T.size : Int)
  all_goals
    go_enter Tryz.func146, Tryz.ntmps146
    go_wp2_with (first
      | (go_at_call 122; refine HT.out.mono ?_; rintro e w1 ⟨rfl, HC1⟩; have hcp1 := (HP.out.ch HC1.out (by simp)).cells; simp only [parCells] at hcp1; clear hcp)
      | (go_at_call 86; refine (trimSpace_ba T v _ (by omega) HTA (ht.out.nil HC1.out) HTR).mono ?_; rintro e w2 ⟨rfl, HC2⟩; have HC12 : Hid (Ch [] w w2) := HC1.out.trans HC2.out (by simp); have hcp2 := (HP.out.ch HC12.out (by simp)).cells; simp only [parCells] at hcp2; clear hcp1)
      | (go_at_call 163; refine (HI.out _).mono ?_; rintro e w3 ⟨rfl, HC3⟩; have HC13 : Hid (Ch [] w w3) := HC12.out.trans HC3.out (by simp); have hcp3 := (HP.out.ch HC13.out (by simp)).cells; simp only [parCells] at hcp3; clear hcp2)
      | (go_at_call 169; (with_reducible refine (HQ1.out _).mono ?_); rintro e w4 ⟨rfl, rfl⟩)
      | (go_at_call 169; (with_reducible refine (HQ2.out _).mono ?_); rintro e w4 ⟨rfl, rfl⟩))
    go_ret2
    exact ⟨rfl, HC13⟩
end Go.Proofs.YtfnncdngfggcjaaGreatDoor
