/- Contracts of the reference's Lower and IsName. -/
import Derived.Test.YtfnncdngfggcjaaGreatDoorLf4
namespace Go.Proofs.YtfnncdngfggcjaaGreatDoor
open Go.RowKit

def lowC (c : UInt8) : UInt8 := if 65 ≤ c.toNat ∧ c.toNat ≤ 90 then c + 32 else c
def lowL (l : List UInt8) : List UInt8 := l.map lowC
def lowB (s : ByteArray) : ByteArray := ⟨(lowL s.data.toList).toArray⟩

theorem lowC_toNat (c : UInt8) : ((lowC c).toNat : Int) = if 65 ≤ c.toNat ∧ c.toNat ≤ 90 then (c.toNat : Int) + 32 else c.toNat := by
  unfold lowC
  split
  · rename_i h
    rw [UInt8.toNat_add]
    have : (32 : UInt8).toNat = 32 := rfl
    omega
  · rfl

theorem lowL_set {l : List UInt8} {k : Nat} (h : k < l.length) : (lowL (l.take k) ++ l.drop k).set k (lowC l[k]) = lowL (l.take (k + 1)) ++ l.drop (k + 1) := by
  have e1 : (lowL (l.take k)).length = k := by unfold lowL; rw [List.length_map, List.length_take]; omega
  rw [List.set_append_right _ _ (by omega), e1, Nat.sub_self, List.drop_eq_getElem_cons h, List.set_cons_zero, List.take_succ_eq_append_getElem h]
  unfold lowL
  rw [List.map_append]
  simp

/-- A row of bytes that came of a text: its bytes, what is spare; no cell of it frozen. -/
def BRow (w : World) (b : Nat) (cur : List UInt8) (spare : List Value) (N : Nat) : Prop := w.heap[b]? = some (.cells (u8s cur ++ spare).toArray 5 (N, N + 1)) ∧ cur.length ≤ N
theorem BRow.cell {w : World} {b : Nat} {cur : List UInt8} {spare : List Value} {N : Nat} (h : BRow w b cur spare N) {j : Nat} {c : UInt8} (hj : cur[j]? = some c) : w.cell? ⟨b, j, none⟩ = some (.int .u8 c.toNat) := by
  have hl : j < cur.length := (List.getElem?_eq_some_iff.1 hj).1
  simp only [World.cell?, h.1]
  have : (u8s cur ++ spare)[j]? = some (.int .u8 c.toNat) := by
    rw [List.getElem?_append_left (by rw [u8s_length]; exact hl)]
    unfold u8s
    rw [List.getElem?_map, hj]; rfl
  simpa using this
theorem BRow.free {w : World} {b : Nat} {cur : List UInt8} {spare : List Value} {N : Nat} (h : BRow w b cur spare N) {j : Nat} (hj : j < cur.length) : w.frozen? ⟨b, j, none⟩ = false := by
  have := h.2
  simp only [World.frozen?, h.1]
  have : ¬ N ≤ j := by omega
  simp [this]
theorem BRow.set {w : World} {b : Nat} {cur : List UInt8} {spare : List Value} {N : Nat} (h : BRow w b cur spare N) {k : Nat} (hk : k < cur.length) (c : UInt8) : BRow (w.setCell ⟨b, k, none⟩ (.int .u8 c.toNat)) b (cur.set k c) spare N := by
  refine ⟨?_, by rw [List.length_set]; exact h.2⟩
  have h1 := h.1
  have e : u8s (cur.set k c) ++ spare = (u8s cur ++ spare).set k (.int .u8 c.toNat) := by
    rw [List.set_append_left _ _ (by rw [u8s_length]; exact hk)]
    unfold u8s
    rw [List.map_set]
  rw [e]
  simp [World.setCell, Array.getElem?_modify, h1]
theorem BRow.new (w : World) (s : ByteArray) : BRow (Lib.bytesWorld w 5 s) w.heap.size s.data.toList (List.replicate (grownCap w s.size 0 5 - s.size) (.int .u8 0)) (Lib.bytesCells w 5 s).size := by
  refine ⟨?_, ?_⟩
  · rw [Lib.bytesWorld_at_new]
    congr 2
    unfold Lib.bytesCells u8s
    apply Array.toList_inj.1
    simp
  · unfold Lib.bytesCells
    rw [Array.size_append, Array.size_map, toList_length]
    show s.size ≤ s.size + _
    omega

set_option maxRecDepth 100000 in
set_option maxHeartbeats 1000000 in
theorem lower_any (s : ByteArray) (w : World) (hs : s.size ≤ 4096) :
    Calls Tryz.prog 28 #[.string s] w fun e w' => e = .returned (.string (lowB s)) ∧ Hid (Ch [] w w') := by
  have hcv := Lib.run_convert_string_bytes (P := Tryz.prog) w 9 78 5 s (u := .string) Tryz.underlying9 Tryz.underlying78 (by kernel_rfl)
  have hrow := BRow.new w s
  have hch : Ch [] w (Lib.bytesWorld w 5 s) := ⟨rfl, rfl, rfl, by rw [Lib.bytesWorld_size]; omega, fun k hk _ => Lib.bytesWorld_at_old w 5 s k hk⟩
  obtain ⟨W, hW⟩ : ∃ W, Lib.bytesWorld w 5 s = W := ⟨_, rfl⟩
  obtain ⟨spare, hsp⟩ : ∃ spare, List.replicate (grownCap w s.size 0 5 - s.size) (Value.int .u8 0) = spare := ⟨_, rfl⟩
  obtain ⟨N, hN⟩ : ∃ N, (Lib.bytesCells w 5 s).size = N := ⟨_, rfl⟩
  rw [hW, hsp, hN] at hrow
  rw [hW] at hcv hch
  have HROW := Lib.hid hrow
  have HCH := Lib.hid hch
  clear hW hsp hN hrow hch
  obtain ⟨l, hl⟩ : ∃ l, s.data.toList = l := ⟨_, rfl⟩
  obtain ⟨n, hn⟩ : ∃ n, s.size = n := ⟨_, rfl⟩
  have hln : l.length = n := by rw [← hl, ← hn]; exact toList_length s
  have HLN := Lib.hid hln
  have HB : Hid (lowB s = ⟨(lowL l).toArray⟩) := (show lowB s = _ by unfold lowB; rw [hl])
  rw [hl] at HROW
  rw [hn] at hcv hs
  have hsz : (s.size : Int) = n := by rw [hn]
  clear hl hn hln hsz
  go_enter Tryz.func28, Tryz.ntmps28
  go_wp2
  go_loopw [10] (fun i wx => ∃ k : Nat, k ≤ n ∧ i = .int .i64 k ∧ Hid (BRow wx w.heap.size (lowL (l.take k) ++ l.drop k) spare N) ∧ Hid (Ch [] w wx)) (fun i _ => n - (intOf i).toNat)
  case atStart => exact ⟨0, Nat.zero_le _, rfl, HROW.out, HCH.out⟩
  case round =>
    obtain ⟨k, hk, rfl, HR, HC⟩ := hrel
    by_cases hlt : k < n
    · have hkl : k < l.length := by rw [HLN.out]; exact hlt
      have hlow : (lowL (l.take k)).length = k := by unfold lowL; rw [List.length_map, List.length_take]; omega
      have hlen : k < (lowL (l.take k) ++ l.drop k).length := by rw [List.length_append, hlow, List.length_drop]; omega
      have hat : (lowL (l.take k) ++ l.drop k)[k]? = some l[k] := by
        rw [List.getElem?_append_right (by omega), hlow, Nat.sub_self, List.getElem?_drop]
        simp [hkl]
      have hcell := HR.out.cell hat
      have hfree := HR.out.free hlen
      have HR2 := Lib.hid (HR.out.set hlen (lowC l[k]))
      have hlc := lowC_toNat l[k]
      rw [lowL_set hkl] at HR2
      obtain ⟨ci, hci⟩ : ∃ ci : Int, (l[k].toNat : Int) = ci := ⟨_, rfl⟩
      have hc0 : 0 ≤ ci := by omega
      rw [hci] at hcell
      clear hlow hlen hat
      by_cases hup : 65 ≤ ci ∧ ci ≤ 90
      · obtain ⟨u1, u2⟩ := hup
        rw [if_pos (by omega), hci] at hlc
        rw [hlc] at HR2
        clear hlc hci
        go_wp2
        go_roundw
        case rel => exact ⟨k + 1, by omega, by go_num, HR2, HC.out.set (.inr (Nat.le_refl _)) _⟩
        case measure => simp [intOf]; omega
      · rw [if_neg (by omega), hci] at hlc
        have hsame : lowL (l.take (k + 1)) ++ l.drop (k + 1) = lowL (l.take k) ++ l.drop k := by
          rw [← lowL_set hkl]
          have : lowC l[k] = l[k] := UInt8.toNat_inj.1 (by have := hlc; omega)
          rw [this]
          have h0 : (lowL (l.take k) ++ l.drop k)[k]? = some l[k] := by
            rw [List.getElem?_append_right (by unfold lowL; rw [List.length_map, List.length_take]; omega)]
            have : (lowL (l.take k)).length = k := by unfold lowL; rw [List.length_map, List.length_take]; omega
            rw [this, Nat.sub_self, List.getElem?_drop]
            simp [hkl]
          apply List.ext_getElem?
          intro j
          by_cases hj : k = j
          · subst hj; rw [List.getElem?_set_self (List.getElem?_eq_some_iff.1 h0).1, h0]
          · rw [List.getElem?_set_ne hj]
        have HR3 : Hid (BRow wr w.heap.size (lowL (l.take (k + 1)) ++ l.drop (k + 1)) spare N) := by rw [hsame]; exact HR
        clear hsame HR2 hlc hci
        by_cases h65 : 65 ≤ ci
        · have h90 : ¬ ci ≤ 90 := fun h => hup ⟨h65, h⟩
          clear hup
          go_wp2
          go_roundw
          case rel => exact ⟨k + 1, by omega, by go_num, HR3, HC⟩
          case measure => simp [intOf]; omega
        · clear hup
          go_wp2
          go_roundw
          case rel => exact ⟨k + 1, by omega, by go_num, HR3, HC⟩
          case measure => simp [intOf]; omega
    · obtain rfl : k = n := by omega
      have hS : (lowL (l.take k) ++ l.drop k) = lowL l := by rw [List.take_of_length_le (by rw [HLN.out]; exact Nat.le_refl _), List.drop_of_length_le (by rw [HLN.out]; exact Nat.le_refl _), List.append_nil]
      rw [hS] at HR
      have hll : (lowL l).length = k := by unfold lowL; rw [List.length_map]; exact HLN.out
      have hcv2 : ∀ c, (convert 78 9 (.slice (some ⟨w.heap.size, 0, none⟩) k c)).run Tryz.prog wr = .ok (.string ⟨(lowL l).toArray⟩) wr := fun c =>
        conv_bytes wr w.heap.size 0 k c (lowL l) hll (fun j c' hj => by rw [Nat.zero_add]; exact HR.out.cell hj)
      clear hcv hS hll
      go_wp2
      go_ret
      exact ⟨by rw [HB.out]; rfl, HC⟩

def nameOk (s : ByteArray) (i : Nat) : Bool := isLetter (bt s i) || (decide (0 < i) && (bt s i == 45 || bt s i == 95))
def dfltLow : List UInt8 := [100, 101, 102, 97, 117, 108, 116]
def isNameB (s : ByteArray) : Bool := (List.range s.size).all (nameOk s) && decide (1 ≤ s.size) && decide (s.size ≤ 30) && !((lowB s).toList == dfltLow)

theorem isNameB_no {s : ByteArray} {k : Nat} (hk : k < s.size) (h : nameOk s k = false) : isNameB s = false := by
  unfold isNameB
  have : (List.range s.size).all (nameOk s) = false := List.all_eq_false.2 ⟨k, List.mem_range.2 hk, by rw [h]; simp⟩
  rw [this]; rfl
theorem isNameB_end {s : ByteArray} (h : ∀ j, j < s.size → nameOk s j = true) : isNameB s = (decide (1 ≤ s.size) && decide (s.size ≤ 30) && !((lowB s).toList == dfltLow)) := by
  unfold isNameB
  have : (List.range s.size).all (nameOk s) = true := List.all_eq_true.2 fun j hj => h j (List.mem_range.1 hj)
  rw [this, Bool.true_and]

set_option maxRecDepth 100000 in
set_option maxHeartbeats 2000000 in
theorem isName_any (s : ByteArray) (w : World) (hs : s.size ≤ 140737488351232) :
    Calls Tryz.prog 20 #[.string s] w fun e w' => e = .returned (.bool (isNameB s)) ∧ Hid (Ch [] w w') := by
  have HLW : Hid (s.size ≤ 30 → ∀ W, Calls Tryz.prog 28 #[.string s] W fun e w' => e = .returned (.string (lowB s)) ∧ Hid (Ch [] W w')) := fun h W => lower_any s W (by omega)
  go_enter Tryz.func20, Tryz.ntmps20
  go_wp2
  go_loop [3] (fun i => ∃ k : Nat, k ≤ s.size ∧ i = .int .i64 k ∧ Hid (∀ j, j < k → nameOk s j = true)) (fun i => s.size - (intOf i).toNat)
  case atStart => exact ⟨0, Nat.zero_le _, rfl, fun j hj => absurd hj (Nat.not_lt_zero _)⟩
  case round =>
    obtain ⟨k, hk, rfl, hok⟩ := hrel
    by_cases hlt : k < s.size
    · obtain ⟨ci, hci⟩ : ∃ ci : Int, bt s k = ci := ⟨_, rfl⟩
      have hct : ((s[k]'hlt).toNat : Int) = ci := by rw [bt_get s k hlt, hci]
      have next : nameOk s k = true → Hid (∀ j, j < k + 1 → nameOk s j = true) := fun h j hj => by
        rcases Nat.lt_or_ge j k with h' | h'
        · exact hok.out j h'
        · obtain rfl : j = k := by omega
          exact h
      cases hL : isLetter ci with
      | true =>
        have HN := next (by unfold nameOk; rw [hci, hL]; rfl)
        clear next hok hci
        go_wp2_with (go_at_call 44; refine (isLetter_any _ _).mono ?_; rintro e w' ⟨rfl, rfl⟩)
        go_round
        case rel => exact ⟨k + 1, by omega, by go_num, HN⟩
        case measure => simp [intOf]; omega
      | false =>
        by_cases h0 : k = 0
        · subst h0
          have HN : Hid (isNameB s = false) := isNameB_no hlt (by unfold nameOk; rw [hci, hL]; rfl)
          clear next hok hci
          go_wp2_with (go_at_call 44; refine (isLetter_any _ _).mono ?_; rintro e w' ⟨rfl, rfl⟩)
          go_ret
          exact ⟨by rw [HN.out]; rfl, Ch.refl _ _⟩
        · have hk0 : 0 < k := by omega
          cases h45 : ci == 45 with
          | true =>
            have HN := next (by unfold nameOk; rw [hci, h45, decide_eq_true hk0]; simp)
            have h45' : (ci != 45) = false := by rw [bne, h45]; rfl
            clear next hok hci
            go_wp2_with (go_at_call 44; refine (isLetter_any _ _).mono ?_; rintro e w' ⟨rfl, rfl⟩)
            go_round
            case rel => exact ⟨k + 1, by omega, by go_num, HN⟩
            case measure => simp [intOf]; omega
          | false =>
            have h45' : (ci != 45) = true := by rw [bne, h45]; rfl
            cases h95 : ci == 95 with
            | true =>
              have HN := next (by unfold nameOk; rw [hci, h95, decide_eq_true hk0]; simp)
              have h95' : (ci != 95) = false := by rw [bne, h95]; rfl
              clear next hok hci
              go_wp2_with (go_at_call 44; refine (isLetter_any _ _).mono ?_; rintro e w' ⟨rfl, rfl⟩)
              go_round
              case rel => exact ⟨k + 1, by omega, by go_num, HN⟩
              case measure => simp [intOf]; omega
            | false =>
              have h95' : (ci != 95) = true := by rw [bne, h95]; rfl
              have HN : Hid (isNameB s = false) := isNameB_no hlt (by unfold nameOk; rw [hci, hL, h45, h95]; simp)
              clear next hok hci
              go_wp2_with (go_at_call 44; refine (isLetter_any _ _).mono ?_; rintro e w' ⟨rfl, rfl⟩)
              go_ret
              exact ⟨by rw [HN.out]; rfl, Ch.refl _ _⟩
    · obtain rfl : k = s.size := by omega
      have HE := Lib.hid (isNameB_end hok.out)
      clear hok
      by_cases h1 : 1 ≤ s.size
      · by_cases h30 : s.size ≤ 30
        · have hL := Lib.hid (HLW.out h30)
          cases hq : (lowB s).toList == [100, 101, 102, 97, 117, 108, 116] with
          | true =>
            have HN : Hid (isNameB s = false) := by
              have := HE.out
              rw [show ((lowB s).toList == dfltLow) = true from hq] at this
              exact this.trans (by simp)
            have hq' : ((lowB s).toList != [100, 101, 102, 97, 117, 108, 116]) = false := by rw [bne, hq]; rfl
            go_wp2_with (go_at_call 28; refine (hL.out _).mono ?_; rintro e w' ⟨rfl, HC⟩)
            go_ret
            exact ⟨by rw [HN.out]; rfl, HC⟩
          | false =>
            have HN : Hid (isNameB s = true) := by
              have := HE.out
              rw [show ((lowB s).toList == dfltLow) = false from hq, decide_eq_true h1, decide_eq_true h30] at this
              exact this.trans rfl
            have hq' : ((lowB s).toList != [100, 101, 102, 97, 117, 108, 116]) = true := by rw [bne, hq]; rfl
            go_wp2_with (go_at_call 28; refine (hL.out _).mono ?_; rintro e w' ⟨rfl, HC⟩)
            go_ret
            exact ⟨by rw [HN.out]; rfl, HC⟩
        · have HN : Hid (isNameB s = false) := HE.out.trans (by rw [decide_eq_false h30]; simp)
          go_wp2
          go_ret
          exact ⟨by rw [HN.out]; rfl, Ch.refl _ _⟩
      · have HN : Hid (isNameB s = false) := HE.out.trans (by rw [decide_eq_false h1]; rfl)
        go_wp2
        go_ret
        exact ⟨by rw [HN.out]; rfl, Ch.refl _ _⟩
end Go.Proofs.YtfnncdngfggcjaaGreatDoor
