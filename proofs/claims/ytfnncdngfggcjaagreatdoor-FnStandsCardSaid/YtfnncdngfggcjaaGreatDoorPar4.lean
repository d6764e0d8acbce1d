/- What holds between two lines of a text; the bytes of a line. -/
import Derived.Test.YtfnncdngfggcjaaGreatDoorNk3
import Derived.Test.YtfnncdngfggcjaaGreatDoorPa0
import Derived.Test.YtfnncdngfggcjaaGreatDoorTrl
namespace Go.Proofs.YtfnncdngfggcjaaGreatDoor
open Go.RowKit

/-- Between two lines. -/
structure LAt (fb pb rb bb br cb mb B L : Nat) (sh t : Bool) (dsv : Value) (txt : List UInt8) (dv : Option Addr) (cap : Nat) (pr : Int) (ea fa : Addr) (fin : List SV) (w wr : World)
    (rest : List Ln) (own : Nat → Nat) (σ : List SecA) (slv siv : Value) (s : SecA) (p : PS) (r : Nat) (lb ls : Int) : Prop where
  file : FileOK B own wr fb sh σ dsv slv siv mb
  cur : σ[p.cur]? = some s
  view : viewOf σ = p.v
  rdr : RdrOK pb rb bb br cb B L txt dv cap pr ea fa t wr p.cnt r lb ls
  ok : okRun sh t p rest
  run : (runP sh p rest).v = fin
  text : txt.drop r = textOf rest
  le : r ≤ L
  kept : Kept B w wr

/-- Behind the last line. -/
structure EAt (fb pb rb cb mb B : Nat) (sh : Bool) (dsv : Value) (fin : List SV) (w wr : World) (own : Nat → Nat) (σ : List SecA) (slv siv : Value) : Prop where
  file : FileOK B own wr fb sh σ dsv slv siv mb
  view : viewOf σ = fin
  par : ∃ cnt, Blk wr pb 206 (parCells rb cb true cnt)
  kept : Kept B w wr

/-- The file that a text makes. -/
def ParsedR (B : Nat) (sh : Bool) (fb mb : Nat) (dsv : Value) (fin : List SV) (w w' : World) : Prop :=
  ∃ own σ slv siv, FileOK B own w' fb sh σ dsv slv siv mb ∧ viewOf σ = fin ∧ Kept B w w'


/-! ### The bytes of a line -/
theorem secBody (n : ByteArray) : (Ln.sec n).body = 91 :: (n.data.toList ++ [93]) := rfl
theorem secLine (n : ByteArray) : (Ln.sec n).body ++ [10] = 91 :: (n.data.toList ++ [93, 10]) := by unfold Ln.body; simp
theorem toList_mem_bt {v : ByteArray} {c : UInt8} (h : c ∈ v.data.toList) : ∃ i, i < v.size ∧ bt v i = (c.toNat : Int) := by
  obtain ⟨i, hi⟩ := List.getElem?_of_mem h
  exact ⟨i, by have := (List.getElem?_eq_some_iff.1 hi).1; rwa [toList_length] at this, bt_at hi⟩
theorem no10 {n : ByteArray} (h : ∀ i, i < n.size → bt n i ≠ 10) : (10 : UInt8) ∉ n.data.toList := fun hm => by
  obtain ⟨i, hi, e⟩ := toList_mem_bt hm
  exact h i hi e
theorem NameB.no10 {n : ByteArray} (h : NameB n) : (10 : UInt8) ∉ n.data.toList := YtfnncdngfggcjaaGreatDoor.no10 fun i hi => by have := nameCh_facts (h.ch i hi); omega
theorem ValB.no10 {n : ByteArray} (h : ValB n) : (10 : UInt8) ∉ n.data.toList := YtfnncdngfggcjaaGreatDoor.no10 fun i hi => by have := vch_facts (h.ch i hi); omega
theorem sec_no10 {n : ByteArray} (h : NameB n) : (10 : UInt8) ∉ (Ln.sec n).body := by
  rw [secBody]
  simp only [List.mem_cons, List.mem_append, List.not_mem_nil, or_false, not_or]
  exact ⟨by decide, h.no10, by decide⟩
theorem key_no10 {k v : ByteArray} (h : NameB k) (h2 : ValB v) : (10 : UInt8) ∉ (Ln.key k v).body := by
  unfold Ln.body
  simp only [List.mem_cons, List.mem_append, not_or]
  exact ⟨h.no10, by decide, by decide, by decide, h2.no10⟩
theorem sec_length (n : ByteArray) : (Ln.sec n).body.length = n.size + 2 := by rw [secBody, List.length_cons, List.length_append, toList_length]; rfl
theorem key_length (k v : ByteArray) : (Ln.key k v).body.length = k.size + 3 + v.size := by
  unfold Ln.body
  rw [List.length_append, List.length_cons, List.length_cons, List.length_cons, toList_length, toList_length]; omega

/-- The key's line, whole, as a text. -/
def keyText (k v : ByteArray) : ByteArray := ⟨((Ln.key k v).body ++ [10]).toArray⟩
theorem keyText_list (k v : ByteArray) : (keyText k v).data.toList = k.data.toList ++ (32 :: 61 :: 32 :: v.data.toList ++ [10]) := by
  unfold keyText Ln.body; simp
theorem keyText_size (k v : ByteArray) : (keyText k v).size = k.size + 3 + v.size + 1 := by
  unfold keyText; rw [size_list, List.length_append, key_length]; rfl
theorem keyText_lt (k v : ByteArray) (i : Nat) (h : i < k.size) : bt (keyText k v) i = bt k i := by
  unfold bt
  rw [keyText_list, List.getD_eq_getElem?_getD, List.getD_eq_getElem?_getD, List.getElem?_append_left (by rw [toList_length]; exact h)]
theorem keyText_at (k v : ByteArray) (j : Nat) : bt (keyText k v) (k.size + j) = (((32 :: 61 :: 32 :: v.data.toList ++ [10] : List UInt8).getD j 0).toNat : Int) := by
  unfold bt
  rw [keyText_list, List.getD_eq_getElem?_getD, List.getD_eq_getElem?_getD, List.getElem?_append_right (by rw [toList_length]; omega), toList_length, Nat.add_sub_cancel_left]
theorem nameCh_spc {c : Int} (h : nameCh c = true) : isSpc c = false := by
  unfold nameCh isLetter at h
  unfold isSpc
  simp at h ⊢
  omega
/-- The name of a key, out of its line. -/
theorem keyText_trim {k v : ByteArray} (h : NameB k) : Lib.trimSpace ((keyText k v).extract 0 (k.size + 1)).data.toList = k.data.toList := by
  have e : ((keyText k v).extract 0 (k.size + 1)).data.toList = k.data.toList ++ [32] := by
    rw [ByteArray.data_extract, Array.toList_extract, List.extract_eq_take_drop, List.drop_zero, keyText_list]
    rw [List.take_append, toList_length]
    rw [List.take_of_length_le (by rw [toList_length]; omega)]
    rw [show k.size + 1 - 0 - k.size = 1 by omega]
    rfl
  rw [e]
  have hp := h.pos
  have hlen : (k.data.toList ++ [32]).length = k.size + 1 := by rw [List.length_append, toList_length]; rfl
  have at' : ∀ j b, (k.data.toList ++ [32])[j]? = some b → j < k.size → bt k j = (b.toNat : Int) := fun j b hb hj => by
    rw [List.getElem?_append_left (by rw [toList_length]; exact hj)] at hb
    exact bt_at hb
  have h1 := Lib.trimSpace_cut (k.data.toList ++ [32]) 0 (k.size - 1) (Nat.zero_le _) (by rw [hlen]; omega)
    (fun j b hj => absurd hj (Nat.not_lt_zero _))
    (fun b hb => isSp_of (by rw [← at' 0 b hb hp]; exact nameCh_spc (h.ch 0 hp)))
    (fun b hb => isSp_of (by rw [← at' _ b hb (by omega)]; exact nameCh_spc (h.ch _ (by omega))))
    (fun j b hj hb => by
      have hl : j < (k.data.toList ++ [32]).length := (List.getElem?_eq_some_iff.1 hb).1
      rw [hlen] at hl
      have : j = k.size := by omega
      subst this
      rw [List.getElem?_append_right (by rw [toList_length]; exact Nat.le_refl _), toList_length, Nat.sub_self] at hb
      cases hb; decide)
  rw [h1, List.drop_zero, show k.size - 1 + 1 - 0 = k.size by omega, List.take_append_of_le_length (by rw [toList_length]; exact Nat.le_refl _), List.take_of_length_le (by rw [toList_length]; exact Nat.le_refl _)]
/-- What stands behind the sign. -/
theorem keyText_rest (k v : ByteArray) (j : Nat) (c : UInt8) (h : (restOf v).data.toList[j]? = some c) : (keyText k v).data.toList[k.size + 2 + j]? = some c := by
  rw [keyText_list, List.getElem?_append_right (by rw [toList_length]; omega), toList_length, show k.size + 2 + j - k.size = j + 2 by omega]
  exact h

theorem drop_line {txt l rest : List UInt8} {r m : Nat} (h : txt.drop r = l ++ 10 :: rest) (hm : m = l.length) : txt.drop (r + m + 1) = rest ∧ r + m + 1 ≤ txt.length := by
  subst hm
  have h1 : txt.drop (r + l.length + 1) = (txt.drop r).drop (l.length + 1) := by rw [List.drop_drop]; congr 1
  have h2 := congrArg List.length h
  rw [List.length_drop, List.length_append, List.length_cons] at h2
  refine ⟨?_, by omega⟩
  rw [h1, h, List.drop_append, List.drop_of_length_le (by omega), show l.length + 1 - l.length = 1 by omega]
  rfl
theorem sec_at (n : ByteArray) (j : Nat) (c : UInt8) (h : ([93, 10] : List UInt8)[j]? = some c) : (u8s (91 :: (n.data.toList ++ [93, 10])))[n.size + 1 + j]? = some (.int .u8 c.toNat) := by
  unfold u8s
  rw [List.getElem?_map, show n.size + 1 + j = (n.size + j) + 1 by omega, List.getElem?_cons_succ, List.getElem?_append_right (by rw [toList_length]; omega), toList_length, Nat.add_sub_cancel_left, h]
  rfl
theorem sec_name (n : ByteArray) {j : Nat} {c : UInt8} (h : n.data.toList[j]? = some c) : (u8s (91 :: (n.data.toList ++ [93, 10])))[j + 1]? = some (.int .u8 c.toNat) := by
  unfold u8s
  rw [List.getElem?_map, List.getElem?_cons_succ, List.getElem?_append_left (List.getElem?_eq_some_iff.1 h).1, h]
  rfl
theorem RdrOK.neb {pb rb bb br cb B L : Nat} {txt : List UInt8} {dv : Option Addr} {cap : Nat} {pr : Int} {ea fa : Addr} {t : Bool} {w : World} {cnt : Int} {r : Nat} {lb ls : Int} (h : RdrOK pb rb bb br cb B L txt dv cap pr ea fa t w cnt r lb ls) : rb ≠ bb := by
  obtain ⟨cs, hb, _⟩ := h.buf
  exact h.rdr.ne hb (by decide)
theorem RdrOK.bbl {pb rb bb br cb B L : Nat} {txt : List UInt8} {dv : Option Addr} {cap : Nat} {pr : Int} {ea fa : Addr} {t : Bool} {w : World} {cnt : Int} {r : Nat} {lb ls : Int} (h : RdrOK pb rb bb br cb B L txt dv cap pr ea fa t w cnt r lb ls) : bb < w.heap.size := by
  obtain ⟨cs, hb, _⟩ := h.buf
  exact hb.lt

theorem keyCell0 {k v : ByteArray} {W : World} {nb : Nat} (hk : 0 < k.size) (h : ∀ (j : Nat) (c : UInt8), (keyText k v).data.toList[j]? = some c → W.cell? ⟨nb, 0 + j, none⟩ = some (.int .u8 c.toNat)) : W.cell? ⟨nb, 0, none⟩ = some (.int .u8 (bt k 0)) := by
  have hl : 0 < k.data.toList.length := by rw [toList_length]; exact hk
  have h1 : k.data.toList[0]? = some k.data.toList[0] := List.getElem?_eq_getElem hl
  have h2 := h 0 _ (by rw [keyText_list, List.getElem?_append_left hl]; exact h1)
  rw [bt_at h1]
  exact h2
theorem keyCellR {k v : ByteArray} {W : World} {nb n0 j : Nat} {c : UInt8} (hn : n0 = k.size + 1) (h : Blk W nb 5 (u8s ((Ln.key k v).body ++ [10]))) (hj : (restOf v).data.toList[j]? = some c) : W.cell? ⟨nb, n0 + 1 + j, none⟩ = some (.int .u8 c.toNat) := by
  subst hn
  rw [h.cells]
  unfold u8s
  rw [List.getElem?_map, show k.size + 1 + 1 + j = k.size + 2 + j by omega, (show ((Ln.key k v).body ++ [10])[k.size + 2 + j]? = some c from keyText_rest k v j c hj)]
  rfl
end Go.Proofs.YtfnncdngfggcjaaGreatDoor
