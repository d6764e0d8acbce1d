/- The walk of laws.FnStrings. -/
import Derived.Test.YtfnncdngfggcjaaGreatDoorSt4
import Derived.Test.YtfnncdngfggcjaaGreatDoorIn2
import Derived.BigQuiet
import Derived.Deep.QuietTactic
namespace Go.Proofs.YtfnncdngfggcjaaGreatDoor
open Go.RowKit

theorem StrsB.slotS {B : Nat} {w : World} {v : Value} {l : List ByteArray} (h : StrsB B w v l) : ∃ a cap, v = .slice a l.length cap ∧ ∀ k (_hk : k < l.length), ∃ b off, a = some ⟨b, off, none⟩ ∧ l.length ≤ cap ∧ b < w.heap.size ∧ b < B ∧ ∀ j (hj : j < l.length), w.cell? ⟨b, off + j, none⟩ = some (.string l[j]) := by
  rcases h with ⟨p, c, rfl, rfl⟩ | ⟨b, off, cap, rfl, h0, hcap, hbB, hbw, hc⟩
  · exact ⟨p, c, rfl, fun k hk => absurd hk (Nat.not_lt_zero _)⟩
  · exact ⟨_, cap, rfl, fun k _ => ⟨b, off, rfl, hcap, hbw, hbB, hc⟩⟩

set_option maxRecDepth 100000 in
set_option maxHeartbeats 1000000 in
theorem same_eqS (B1 B2 : Nat) (v1 v2 : Value) (l : List ByteArray) (w : World) (h1 : StrsB B1 w v1 l) (h2 : StrsB B2 w v2 l) (hl : l.length ≤ 1000000) :
    Calls Tryz.prog 19 #[v1, v2] w fun e w' => e = .returned (.bool true) ∧ Hid (Dr w w') := by
  obtain ⟨a1, c1, rfl, hs1⟩ := h1.slotS
  obtain ⟨a2, c2, rfl, hs2⟩ := h2.slotS
  have H1 := Lib.hid hs1
  have H2 := Lib.hid hs2
  clear h1 h2 hs1 hs2
  go_enter Tryz.func19, Tryz.ntmps19
  go_wp2
  go_loopg [13] (l.length + 1) (fun gf i wx => ∃ k : Nat, k ≤ l.length ∧ gf = l.length + 1 - k ∧ i = .int .i64 k ∧ Hid (Dr w wx))
  case atStart => exact ⟨0, Nat.zero_le _, rfl, rfl, Dr.refl w⟩
  case round =>
    obtain ⟨k, hk, hgk, rfl, HD⟩ := hrel
    by_cases hlt : k < l.length
    · obtain ⟨b1, o1, rfl, _, _, _, hc1⟩ := H1.out k hlt
      obtain ⟨b2, o2, rfl, _, _, _, hc2⟩ := H2.out k hlt
      have hx1 := (HD.out.cell _).trans (hc1 k hlt)
      have hx2 := (HD.out.cell _).trans (hc2 k hlt)
      clear hc1 hc2
      obtain ⟨x, hx⟩ : ∃ x, l[k] = x := ⟨_, rfl⟩
      rw [hx] at hx1 hx2
      clear hx
      have hbq : (x.toList == x.toList) = true := by simp
      go_wp2
      go_quiet (fail)
      go_wp2
      go_roundg (l.length + 1 - (k + 1))
      case measure => omega
      case rel => exact ⟨k + 1, by omega, rfl, by go_num, HD.out.drewN _⟩
    · obtain rfl : k = l.length := by omega
      go_wp2
      go_ret
      exact ⟨rfl, HD⟩

/-- The law's premises. -/
structure StIn (l : List ByteArray) : Prop where
  pl : ∀ v, v ∈ l → isPlain v = true
  len : l.length ≤ 10
  pos : 1 ≤ l.length
def SepOK (sep : ByteArray) : Prop := sep = ⟨#[44]⟩ ∨ sep = ⟨#[32, 44, 32]⟩
theorem SepOK.size {sep : ByteArray} (h : SepOK sep) : sep.size ≤ 3 := by rcases h with rfl | rfl <;> decide
theorem st_byte {l : List ByteArray} (h : StIn l) {sep : ByteArray} (hs : SepOK sep) {c : UInt8} (hc : c ∈ joinL sep.data.toList l) : c.toNat < 128 ∧ c ≠ 92 ∧ c ≠ 37 := by
  rcases joinL_mem hc with hc | ⟨x, hx, hc⟩
  · rcases hs with rfl | rfl
    · have : c = 44 := by simpa using hc
      subst this; decide
    · have : c = 32 ∨ c = 44 ∨ c = 32 := by simpa using hc
      rcases this with rfl | rfl | rfl <;> decide
  · have := plain_byte (h.pl x hx) hc
    exact ⟨this.1, this.2.2.1, this.2.2.2⟩
theorem st_split {l : List ByteArray} (h : StIn l) {sep : ByteArray} (hs : SepOK sep) : splitC (joinL sep.data.toList l) [] = l := by
  rcases hs with rfl | rfl
  · exact split_join1 l h.pl
  · obtain ⟨x, r, rfl⟩ : ∃ x r, l = x :: r := by
      cases l with
      | nil => have := h.pos; simp at this
      | cons x r => exact ⟨x, r, rfl⟩
    exact split_join3 [] (.inl rfl) x r h.pl
theorem st_pos {l : List ByteArray} (h : StIn l) (sep : ByteArray) : 0 < (joinL sep.data.toList l).length := by
  obtain ⟨x, r, rfl⟩ : ∃ x r, l = x :: r := by
    cases l with
    | nil => have := h.pos; simp at this
    | cons x r => exact ⟨x, r, rfl⟩
  have hx := plain_pos (h.pl x (by simp))
  have hl := toList_length x
  cases r with
  | nil => show 0 < x.data.toList.length; omega
  | cons y r => show 0 < (x.data.toList ++ sep.data.toList ++ joinL sep.data.toList (y :: r)).length; simp only [List.length_append]; omega
theorem st33 (B : Nat) (ea fa : Addr) (l : List ByteArray) (h : StIn l) (sep : ByteArray) (hs : SepOK sep) (w : World) (g : Glob w B ea fa) (htab : SpcTab w) :
    Calls Tryz.prog 33 #[.string ⟨(joinL sep.data.toList l).toArray⟩, .string ⟨#[44]⟩] w fun e w' => ∃ v', e = .returned v' ∧ Hid (StrsB w'.heap.size w' v' l) ∧ Hid (Kept B w w') := by
  have hlen := joinL_len (sep := sep.data.toList) (by rw [toList_length]; exact hs.size) (l := l) (fun x hx => plain_size (h.pl x hx))
  have hl10 := h.len
  have hpos := st_pos h sep
  have hm : ∀ (i : Nat) (c : UInt8), (⟨(joinL sep.data.toList l).toArray⟩ : ByteArray).data.toList[i]? = some c → c ∈ joinL sep.data.toList l := fun i c hc => by
    have h1 := List.mem_of_getElem? hc
    simpa using h1
  have h1 := strings33_of B ea fa ⟨(joinL sep.data.toList l).toArray⟩ w g htab (by rw [size_list]; exact hpos) (by rw [size_list]; omega)
    (fun i hi e => by
      rw [size_list] at hi
      rw [bt_list, List.getD_eq_getElem?_getD, List.getElem?_eq_getElem hi] at e
      have h2 := (st_byte h hs (List.getElem_mem hi)).2.2
      exact h2 (UInt8.toNat_inj.1 (by show _ = 37; have : (((joinL sep.data.toList l)[i].toNat : Nat) : Int) = 37 := e; omega)))
    (fun i c hc => by
      have h2 := st_byte h hs (hm i c hc)
      exact ⟨h2.1, h2.2.1⟩)
  have e : splitC (⟨(joinL sep.data.toList l).toArray⟩ : ByteArray).data.toList [] = l := st_split h hs
  rw [e] at h1
  exact h1

set_option maxRecDepth 100000 in
set_option maxHeartbeats 8000000 in
theorem fnStrings_walk (B : Nat) (ea fa : Addr) (v : Value) (l : List ByteArray) (bl : Bool) (w : World) (g : Glob w B ea fa) (htab : SpcTab w) (hB : B = w.heap.size) (h : StrsB B w v l) (hl : l.length ≤ maxLen) :
    Calls Tryz.prog 14 #[v, .bool bl] w fun e w' => e = .returned (.bool true) ∧ Hid (Kept B w w') := by
  have HF0 := zzFits5_any B v l w h hl
  cases hf : fitsB l with
  | false =>
    rw [hf] at HF0
    have HF := Lib.hid HF0
    clear HF0 g h hf htab
    go_enter Tryz.func14, Tryz.ntmps14
    go_wp2_with (go_at_call 23; refine HF.out.mono ?_; rintro e w' ⟨rfl, rfl⟩)
    go_ret
    exact ⟨rfl, Kept.refl B w⟩
  | true =>
  rw [hf] at HF0
  have HF := Lib.hid HF0
  clear HF0
  have HFA : Hid (∀ k (h : k < l.length), l[k].size ≤ 2147483647) := fun k hk => fitsB_at hf (List.getElem_mem hk)
  have hlen := fitsB_len hf
  obtain ⟨a, cap, rfl, hsl⟩ := h.slotS
  have HV := Lib.hid h
  have HSL := Lib.hid hsl
  clear h hf hsl
  by_cases h1 : (l.length : Int) < 1
  · clear g htab
    go_enter Tryz.func14, Tryz.ntmps14
    go_wp2_with (go_at_call 23; refine HF.out.mono ?_; rintro e w' ⟨rfl, rfl⟩)
    go_ret
    exact ⟨rfl, Kept.refl B w⟩
  by_cases h10 : (10 : Int) < (l.length : Int)
  · clear g htab
    go_enter Tryz.func14, Tryz.ntmps14
    go_wp2_with (go_at_call 23; refine HF.out.mono ?_; rintro e w' ⟨rfl, rfl⟩)
    go_ret
    exact ⟨rfl, Kept.refl B w⟩
  have HG := Lib.hid g
  have HTAB := Lib.hid htab
  have HBE := Lib.hid hB
  have hl10 : l.length ≤ 10 := by omega
  have hl1 : 1 ≤ l.length := by omega
  clear g hB htab
  go_enter Tryz.func14, Tryz.ntmps14
  go_wp2_with (go_at_call 23; refine HF.out.mono ?_; rintro e w' ⟨rfl, rfl⟩)
  clear HF
  go_loop [21] (fun s21 => ∃ k : Nat, k ≤ l.length ∧ s21 = .int .i64 k ∧ Hid (∀ j (hj : j < l.length), j < k → isPlain l[j] = true)) (fun i => l.length - (intOf i).toNat)
  case atStart => exact ⟨0, Nat.zero_le _, rfl, fun j hj h => absurd h (Nat.not_lt_zero _)⟩
  case round =>
    obtain ⟨k, hk, rfl, HI⟩ := hrel
    by_cases hlt : k < l.length
    · obtain ⟨b, off, rfl, hcp, hbw, _, hcl⟩ := HSL.out k hlt
      have hcell := hcl k hlt
      obtain ⟨n, hn⟩ : ∃ n, l[k] = n := ⟨_, rfl⟩
      have hnz1 := HFA.out k hlt
      have HNE := Lib.hid hn
      rw [hn] at hcell hnz1
      clear hcl hn
      cases h2 : isPlain n with
      | false =>
        have HN2 := isPlain_hid n false h2 (by omega)
        clear h2
        go_wp2_with (go_at_call 21; refine (HN2.out _).mono ?_; rintro e w' ⟨rfl, rfl⟩)
        go_ret
        exact ⟨rfl, Kept.refl B w⟩
      | true =>
        have HN2 := isPlain_hid n true h2 (by omega)
        have HN3 := Lib.hid h2
        clear h2
        go_wp2_with (go_at_call 21; refine (HN2.out _).mono ?_; rintro e w' ⟨rfl, rfl⟩)
        go_round
        case rel =>
          refine ⟨k + 1, by omega, by go_num, fun j hj h => ?_⟩
          by_cases e : j = k
          · subst e; rw [HNE.out]; exact HN3.out
          · exact HI.out j hj (by omega)
        case measure => simp [intOf]; omega
    · obtain rfl : k = l.length := by omega
      have HIN : Hid (StIn l) := ⟨fun x hx => by
        obtain ⟨j, hj, e⟩ := List.mem_iff_getElem.1 hx
        rw [← e]; exact HI.out j hj hj, hl10, hl1⟩
      have HJ := fun (sep : ByteArray) (hs : SepOK sep) => Lib.hid (joined_any B _ l sep w HV.out hl10 hs.size (fun x hx => plain_size (HIN.out.pl x hx)))
      have HT := fun (sep : ByteArray) (hs : SepOK sep) => Lib.hid (st33 B ea fa l HIN.out sep hs w HG.out HTAB.out)
      cases bl
      · have HJ1 := HJ ⟨#[44]⟩ (.inl rfl)
        have HT1 := HT ⟨#[44]⟩ (.inl rfl)
        obtain ⟨js, hjs⟩ : ∃ js, (⟨(joinL (⟨#[44]⟩ : ByteArray).data.toList l).toArray⟩ : ByteArray) = js := ⟨_, rfl⟩
        rw [hjs] at HJ1 HT1
        clear HJ HT hjs
        go_wp2_with (first
          | (go_at_call 34; refine HJ1.out.mono ?_; rintro e w' ⟨rfl, rfl⟩)
          | (go_at_call 33; refine HT1.out.mono ?_; rintro e w1 ⟨v1, rfl, HV1, HK1⟩)
          | (go_at_call 19; refine (same_eqS _ _ _ _ l w1 HV1.out (HV.out.kept HK1.out) (by omega)).mono ?_; rintro e w2 ⟨rfl, HD2⟩))
        go_ret
        exact ⟨rfl, HK1.out.trans ⟨[], HD2.out.ch [], by simp⟩⟩
      · have HJ1 := HJ ⟨#[32, 44, 32]⟩ (.inr rfl)
        have HT1 := HT ⟨#[32, 44, 32]⟩ (.inr rfl)
        obtain ⟨js, hjs⟩ : ∃ js, (⟨(joinL (⟨#[32, 44, 32]⟩ : ByteArray).data.toList l).toArray⟩ : ByteArray) = js := ⟨_, rfl⟩
        rw [hjs] at HJ1 HT1
        clear HJ HT hjs
        go_wp2_with (first
          | (go_at_call 34; refine HJ1.out.mono ?_; rintro e w' ⟨rfl, rfl⟩)
          | (go_at_call 33; refine HT1.out.mono ?_; rintro e w1 ⟨v1, rfl, HV1, HK1⟩)
          | (go_at_call 19; refine (same_eqS _ _ _ _ l w1 HV1.out (HV.out.kept HK1.out) (by omega)).mono ?_; rintro e w2 ⟨rfl, HD2⟩))
        go_ret
        exact ⟨rfl, HK1.out.trans ⟨[], HD2.out.ch [], by simp⟩⟩
end Go.Proofs.YtfnncdngfggcjaaGreatDoor
