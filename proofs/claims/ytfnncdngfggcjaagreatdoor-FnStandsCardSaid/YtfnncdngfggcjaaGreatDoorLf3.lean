/- Contracts of TrimSpace, readKeyName and readValue at a plain line. -/
import Derived.Test.YtfnncdngfggcjaaGreatDoorLf2
import Derived.Test.YtfnncdngfggcjaaGreatDoorShf
import Derived.WalkSmall
import Derived.OwnWalk
namespace Go.Proofs.YtfnncdngfggcjaaGreatDoor
open Go.RowKit

/-- The table of ASCII's blanks, as it is laid. -/
def SpcTab (w : World) : Prop := Lib.TabIs Tryz.prog w "strings.asciiSpace" .u8 Lib.asciiSpaceTab
theorem gSpc : Tryz.prog.globalNamed "strings.asciiSpace" = some 0 := by kernel_rfl
theorem SpcTab.ch {w w' : World} (h : SpcTab w) {S : List Nat} (c : Ch S w w') (h0 : 0 ∉ S) (hw : 0 < w.heap.size) : SpcTab w' := by
  unfold SpcTab Lib.TabIs World.var? at h ⊢
  simp only [gSpc, Option.bind_some] at h ⊢
  rw [c.block 0 hw h0]
  exact h
theorem SpcTab.size {w : World} (h : SpcTab w) : 0 < w.heap.size := by
  unfold SpcTab Lib.TabIs World.var? at h
  simp only [gSpc, Option.bind_some] at h
  rcases Nat.eq_zero_or_pos w.heap.size with h0 | h0
  · rw [Array.getElem?_eq_none (by omega)] at h; cases h
  · exact h0
theorem SpcTab.nil {w w' : World} (h : SpcTab w) (c : Ch [] w w') : SpcTab w' := h.ch c (by simp) h.size

theorem ba_ext {a b : ByteArray} (h : a.data.toList = b.data.toList) : a = b := ByteArray.ext (Array.toList_inj.1 h)

theorem trimSpace_ba (s r : ByteArray) (w : World) (hs : s.size ≤ 140737488351232) (ha : Hid (∀ i, i < s.size → bt s i < 128)) (ht : SpcTab w) (hr : Hid (Lib.trimSpace s.data.toList = r.data.toList)) :
    Calls Tryz.prog 86 #[.string s] w fun e w' => e = .returned (.string r) ∧ Hid (Ch [] w w') := by
  refine (Tryz.strings_TrimSpace s w (by omega) (fun j b hj => ?_) ht).mono ?_
  · have hl : j < s.size := (List.getElem?_eq_some_iff.1 hj).1
    have h1 := ha.out j hl
    unfold bt at h1
    rw [List.getD_eq_getElem?_getD, hj] at h1
    simp at h1
    omega
  · rintro e w' ⟨rfl, rfl⟩
    have e1 : (⟨(Lib.trimSpace s.data.toList).toArray⟩ : ByteArray) = r := ba_ext (by rw [← hr.out])
    exact ⟨by rw [e1], rfl, rfl, rfl, by rw [Lib.bytesWorld_size]; omega, fun k hk _ => Lib.bytesWorld_at_old w 5 s k hk⟩

theorem conv_ba (w : World) (b off n cap : Nat) (S : ByteArray) (hn : S.size = n) (hc : ∀ j c, S.data.toList[j]? = some c → w.cell? ⟨b, off + j, none⟩ = some (.int .u8 c.toNat)) :
    (convert 78 9 (.slice (some ⟨b, off, none⟩) n cap)).run Tryz.prog w = .ok (.string S) w := by
  have h := conv_bytes w b off n cap S.data.toList (by rw [← hn]; exact Array.length_toList) hc
  have e : (⟨S.data.toList.toArray⟩ : ByteArray) = S := ba_ext rfl
  rw [e] at h
  exact h

set_option maxRecDepth 100000 in
set_option maxHeartbeats 1000000 in
theorem readKeyName_line (S name : ByteArray) (b cap n m : Nat) (w : World) (hm : S.size = m) (hm2 : m ≤ 4096) (hc : Hid (∀ j c, S.data.toList[j]? = some c → w.cell? ⟨b, 0 + j, none⟩ = some (.int .u8 c.toNat)))
    (h34 : bt S 0 ≠ 34) (h96 : bt S 0 ≠ 96) (hn : n < m) (hn0 : 0 < n) (hat : bt S n = 61) (hpre : Hid (∀ i, i < n → bt S i < 128 ∧ bt S i ≠ 61 ∧ bt S i ≠ 58)) (ht : Hid (SpcTab w))
    (hr : Hid (Lib.trimSpace (S.extract 0 n).data.toList = name.data.toList)) :
    Calls Tryz.prog 144 #[.string ⟨#[61, 58]⟩, .slice (some ⟨b, 0, none⟩) m cap] w fun e w' => e = .returned (.tuple #[.string name, .int .i64 (n + 1), .nilIface]) ∧ Hid (Ch [] w w') := by
  have hcv := conv_ba w b 0 m cap S hm hc.out
  subst hm
  have h0 : 0 < S.size := by omega
  have q1 : ((S[0].toNat : Int) == 34) = false := beq_eq_false_iff_ne.2 (by rw [bt_get S 0 h0]; exact h34)
  have q2 : ((S[0].toNat : Int) == 96) = false := beq_eq_false_iff_ne.2 (by rw [bt_get S 0 h0]; exact h96)
  have HI := Lib.hid (zzIndexAny_at S 61 58 n w (by decide) (by decide) hn hpre (.inl hat))
  have hsz : (S.extract 0 n).size ≤ 140737488351232 := by simp [ByteArray.size_extract]; omega
  have HA : Hid (∀ i, i < (S.extract 0 n).size → bt (S.extract 0 n) i < 128) := fun i hi => by
    have hi' : i < n := by simp [ByteArray.size_extract] at hi; omega
    have h1 := (hpre.out i hi').1
    unfold bt at h1 ⊢
    rw [List.getD_eq_getElem?_getD] at h1 ⊢
    have : (S.extract 0 n).data.toList[i]? = S.data.toList[i]? := by
      simp [ByteArray.data_extract, Array.toList_extract, List.extract_eq_take_drop, hi']
    rw [this]; exact h1
  clear h34 h96 hat
  go_enter Tryz.func144, Tryz.ntmps144
  go_wp2_with (first
    | (go_at_call 163; refine HI.out.mono ?_; rintro e w1 ⟨rfl, HC⟩)
    | (go_at_call 86; refine (trimSpace_ba (S.extract 0 n) name _ hsz HA (ht.out.nil HC.out) hr).mono ?_; rintro e w2 ⟨rfl, HC2⟩))
  go_ret3
  exact ⟨rfl, HC.out.trans HC2.out (by simp)⟩

def vch (c : Int) : Bool := isLetter c || c == 32 || c == 37 || c == 40 || c == 41 || c == 45 || c == 46 || c == 95
theorem vch_facts {c : Int} (h : vch c = true) : 32 ≤ c ∧ c < 128 ∧ c ≠ 34 ∧ c ≠ 39 ∧ c ≠ 96 ∧ c ≠ 35 ∧ c ≠ 59 ∧ c ≠ 92 := by
  unfold vch isLetter at h
  simp at h
  omega
/-- A value that is read as it stands. -/
structure ValB (v : ByteArray) : Prop where
  pos : 0 < v.size
  max : v.size ≤ 4000
  ch : ∀ i, i < v.size → vch (bt v i) = true
  first : bt v 0 ≠ 32
  last : bt v (v.size - 1) ≠ 32

set_option maxHeartbeats 400000 in
theorem hasQuote_no (s : ByteArray) (q : Int) (w : World) (h0 : 0 < s.size) (h : bt s 0 ≠ q) :
    Calls Tryz.prog 169 #[.string s, .int .u8 q] w fun e w' => e = .returned (.bool false) ∧ w = w' := by
  have q1 : ((s[0].toNat : Int) == q) = false := beq_eq_false_iff_ne.2 (by rw [bt_get s 0 h0]; exact h)
  clear h
  by_cases h2 : (2 : Int) ≤ (s.size : Int)
  all_goals
    go_enter Tryz.func169, Tryz.ntmps169
    go_wp2
    go_ret
    exact ⟨rfl, rfl⟩
end Go.Proofs.YtfnncdngfggcjaaGreatDoor
