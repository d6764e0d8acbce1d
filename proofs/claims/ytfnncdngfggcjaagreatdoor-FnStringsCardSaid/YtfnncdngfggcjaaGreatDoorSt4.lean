/- FnStrings: texts joined, and divided again (plain); contracts of spec.Joined and impl.Strings. -/
import Derived.Test.YtfnncdngfggcjaaGreatDoorSt3
import Derived.Test.YtfnncdngfggcjaaGreatDoorNm2
namespace Go.Proofs.YtfnncdngfggcjaaGreatDoor
open Go.RowKit

/-! ### trimmed -/
theorem trim_mid (pre post : List UInt8) (x : ByteArray) (hx : ValB x) (h1 : ∀ c, c ∈ pre → Lib.isSp c = true) (h2 : ∀ c, c ∈ post → Lib.isSp c = true) : trimB (pre ++ (x.data.toList ++ post)) = x := by
  have hpos := hx.pos
  have hxl := toList_length x
  have at0 : ∀ j, j < x.size → (pre ++ (x.data.toList ++ post))[pre.length + j]? = x.data.toList[j]? := fun j hj => by
    rw [List.getElem?_append_right (by omega), show pre.length + j - pre.length = j by omega, List.getElem?_append_left (by omega)]
  have hcut := Lib.trimSpace_cut (pre ++ (x.data.toList ++ post)) pre.length (pre.length + (x.size - 1)) (by omega) (by simp only [List.length_append]; omega)
    (fun j b hj hb => by
      rw [List.getElem?_append_left hj] at hb
      exact h1 b (List.mem_of_getElem? hb))
    (fun b hb => by
      have h3 := at0 0 hpos
      rw [Nat.add_zero] at h3
      rw [h3] at hb
      exact isSp_of (by rw [← bt_at hb]; exact vch_spc (hx.ch 0 hpos) hx.first))
    (fun b hb => by
      rw [at0 _ (by omega)] at hb
      exact isSp_of (by rw [← bt_at hb]; exact vch_spc (hx.ch _ (by omega)) hx.last))
    (fun j b hj hb => by
      rw [List.getElem?_append_right (by omega), List.getElem?_append_right (by omega)] at hb
      exact h2 b (List.mem_of_getElem? hb))
  unfold trimB
  rw [hcut]
  apply ba_ext
  show List.take _ _ = _
  rw [List.drop_left' rfl, show pre.length + (x.size - 1) + 1 - pre.length = x.size by omega, List.take_append_of_le_length (by omega), List.take_of_length_le (by omega)]

/-! ### joined -/
def joinL (sep : List UInt8) : List ByteArray → List UInt8
  | [] => []
  | [x] => x.data.toList
  | x :: y :: r => x.data.toList ++ sep ++ joinL sep (y :: r)
theorem joinL_snoc (sep : List UInt8) (z : ByteArray) : ∀ {l : List ByteArray}, l ≠ [] → joinL sep (l ++ [z]) = joinL sep l ++ sep ++ z.data.toList
  | [], h => absurd rfl h
  | [x], _ => rfl
  | x :: y :: r, _ => by
    show x.data.toList ++ sep ++ joinL sep ((y :: r) ++ [z]) = (x.data.toList ++ sep ++ joinL sep (y :: r)) ++ sep ++ z.data.toList
    rw [joinL_snoc sep z (l := y :: r) (by simp)]; simp
theorem joinL_len {sep : List UInt8} (hs : sep.length ≤ 3) : ∀ {l : List ByteArray}, (∀ x, x ∈ l → x.size ≤ 60) → (joinL sep l).length ≤ 63 * l.length
  | [], _ => Nat.zero_le _
  | [x], h => by have := h x (by simp); show x.data.toList.length ≤ _; rw [toList_length]; simp; omega
  | x :: y :: r, h => by
    have h1 := joinL_len hs (l := y :: r) (fun z hz => h z (List.mem_cons_of_mem _ hz))
    have h2 := h x (by simp)
    show (x.data.toList ++ sep ++ joinL sep (y :: r)).length ≤ _
    simp only [List.length_append, toList_length, List.length_cons] at h1 ⊢
    omega
theorem joinL_mem {sep : List UInt8} {c : UInt8} : ∀ {l : List ByteArray}, c ∈ joinL sep l → c ∈ sep ∨ ∃ x, x ∈ l ∧ c ∈ x.data.toList
  | [], h => by cases h
  | [x], h => .inr ⟨x, by simp, h⟩
  | x :: y :: r, h => by
    rcases List.mem_append.1 (show c ∈ (x.data.toList ++ sep) ++ joinL sep (y :: r) from h) with h | h
    · rcases List.mem_append.1 h with h | h
      · exact .inr ⟨x, by simp, h⟩
      · exact .inl h
    · rcases joinL_mem (l := y :: r) h with h | ⟨z, hz, h⟩
      · exact .inl h
      · exact .inr ⟨z, List.mem_cons_of_mem _ hz, h⟩
theorem plain_byte {x : ByteArray} (h : isPlain x = true) {c : UInt8} (hc : c ∈ x.data.toList) : c.toNat < 128 ∧ c ≠ 44 ∧ c ≠ 92 ∧ c ≠ 37 := by
  obtain ⟨i, hi⟩ := List.getElem?_of_mem hc
  have hl : i < x.size := by have := (List.getElem?_eq_some_iff.1 hi).1; rwa [toList_length] at this
  have h1 := okAt_of h hl
  have h2 := bt_at hi
  unfold okAt isLetter at h1
  rw [h2] at h1
  have key : ∀ n : UInt8, (n.toNat = 44 ∨ n.toNat = 92 ∨ n.toNat = 37) → c ≠ n := fun n hn e => by
    subst e
    simp at h1
    omega
  refine ⟨?_, key 44 (.inl rfl), key 92 (.inr (.inl rfl)), key 37 (.inr (.inr rfl))⟩
  simp at h1
  omega
theorem isSp32 : Lib.isSp 32 = true := by decide

theorem split_join1 : ∀ (l : List ByteArray), (∀ x, x ∈ l → isPlain x = true) → splitC (joinL [44] l) [] = l
  | [], _ => rfl
  | [x], h => by
    have hx := h x (by simp)
    have h44 : 44 ∉ x.data.toList := fun hm => (plain_byte hx hm).2.1 rfl
    have h1 := splitC_app x.data.toList [] [] h44
    rw [List.append_nil] at h1
    show splitC x.data.toList [] = _
    rw [h1]
    have h2 := trim_mid [] [] x (valB_of hx) (fun c hc => by cases hc) (fun c hc => by cases hc)
    simp only [List.append_nil, List.nil_append] at h2 ⊢
    unfold splitC
    rw [if_neg (fun e => by have := toList_length x; rw [e] at this; have := plain_pos hx; simp at *; omega), h2]
  | x :: y :: r, h => by
    have hx := h x (by simp)
    have h44 : 44 ∉ x.data.toList := fun hm => (plain_byte hx hm).2.1 rfl
    show splitC (x.data.toList ++ [44] ++ joinL [44] (y :: r)) [] = _
    rw [List.append_assoc, splitC_app _ _ _ h44, List.singleton_append, splitC_comma, split_join1 (y :: r) (fun z hz => h z (List.mem_cons_of_mem _ hz))]
    have h2 := trim_mid [] [] x (valB_of hx) (fun c hc => by cases hc) (fun c hc => by cases hc)
    simp only [List.append_nil, List.nil_append] at h2 ⊢
    rw [h2]
theorem split_join3 (pre : List UInt8) (hp : pre = [] ∨ pre = [32]) : ∀ (x : ByteArray) (l : List ByteArray), (∀ z, z ∈ x :: l → isPlain z = true) → splitC (joinL [32, 44, 32] (x :: l)) pre = x :: l
  | x, [], h => by
    have hx := h x (by simp)
    have h44 : 44 ∉ x.data.toList := fun hm => (plain_byte hx hm).2.1 rfl
    have hps : ∀ c, c ∈ pre → Lib.isSp c = true := fun c hc => by
      rcases hp with rfl | rfl
      · cases hc
      · rw [List.mem_singleton] at hc; subst hc; exact isSp32
    have h1 := splitC_app x.data.toList [] pre h44
    rw [List.append_nil] at h1
    show splitC x.data.toList pre = _
    rw [h1]
    have h2 := trim_mid pre [] x (valB_of hx) hps (fun c hc => by cases hc)
    rw [List.append_nil] at h2
    unfold splitC
    have hne : pre ++ x.data.toList ≠ [] := fun e => by
      have h9 : pre.length + x.size = 0 := by rw [← toList_length, ← List.length_append, e]; rfl
      have := plain_pos hx
      omega
    rw [if_neg hne, h2]
  | x, y :: r, h => by
    have hx := h x (by simp)
    have h44 : 44 ∉ x.data.toList ++ [32] := fun hm => by
      rcases List.mem_append.1 hm with hm | hm
      · exact (plain_byte hx hm).2.1 rfl
      · exact absurd hm (by decide)
    have hps : ∀ c, c ∈ pre → Lib.isSp c = true := fun c hc => by
      rcases hp with rfl | rfl
      · cases hc
      · rw [List.mem_singleton] at hc; subst hc; exact isSp32
    have e : x.data.toList ++ [32, 44, 32] ++ joinL [32, 44, 32] (y :: r) = (x.data.toList ++ [32]) ++ (44 :: (32 :: joinL [32, 44, 32] (y :: r))) := by simp
    show splitC (x.data.toList ++ [32, 44, 32] ++ joinL [32, 44, 32] (y :: r)) pre = _
    rw [e, splitC_app _ _ _ h44, splitC_comma, splitC_else (by decide)]
    have h2 := trim_mid pre [32] x (valB_of hx) hps (fun c hc => by rw [List.mem_singleton] at hc; subst hc; exact isSp32)
    rw [h2]
    have h3 := split_join3 [32] (.inr rfl) y r (fun z hz => h z (List.mem_cons_of_mem _ hz))
    show x :: splitC (joinL [32, 44, 32] (y :: r)) ([] ++ [32]) = _
    rw [List.nil_append, h3]

/-! ### the contracts -/
def nextJ (sep t x : ByteArray) (k : Nat) : ByteArray := if k = 0 then t ++ x else t ++ sep ++ x
theorem joinL_take {sep : ByteArray} {l : List ByteArray} {k : Nat} {x t : ByteArray} (hk : l[k]? = some x) (ht : t.data.toList = joinL sep.data.toList (l.take k)) : (nextJ sep t x k).data.toList = joinL sep.data.toList (l.take (k + 1)) := by
  obtain ⟨hlt, hx⟩ := List.getElem?_eq_some_iff.1 hk
  rw [List.take_succ_eq_append_getElem hlt, hx]
  unfold nextJ
  by_cases h0 : k = 0
  · subst h0
    rw [if_pos rfl, app_list, ht]; rfl
  · rw [if_neg h0, app_list, app_list, ht, joinL_snoc]
    intro e
    have h9 : min k l.length = 0 := by rw [← List.length_take, e]; rfl
    omega
set_option maxHeartbeats 1000000 in
theorem joined_any (B : Nat) (v : Value) (l : List ByteArray) (sep : ByteArray) (w : World) (h : StrsB B w v l) (hl : l.length ≤ 10) (hs : sep.size ≤ 3) (hx : Hid (∀ x, x ∈ l → x.size ≤ 60)) :
    Calls Tryz.prog 34 #[v, .string sep] w fun e w' => e = .returned (.string ⟨(joinL sep.data.toList l).toArray⟩) ∧ w = w' := by
  obtain ⟨a, cap, rfl, hsl⟩ : ∃ a cap, v = .slice a l.length cap ∧ ∀ k (_hk : k < l.length), ∃ b off, a = some ⟨b, off, none⟩ ∧ l.length ≤ cap ∧ ∀ j (hj : j < l.length), w.cell? ⟨b, off + j, none⟩ = some (.string l[j]) := by
    rcases h with ⟨p, c, rfl, rfl⟩ | ⟨b, off, cap, rfl, h0, h1, h2, h3, h4⟩
    · exact ⟨p, c, rfl, fun k hk => absurd hk (Nat.not_lt_zero _)⟩
    · exact ⟨_, cap, rfl, fun k _ => ⟨b, off, rfl, h1, h4⟩⟩
  have HSL := Lib.hid hsl
  have HJL := fun k => Lib.hid (joinL_len (sep := sep.data.toList) (by rw [toList_length]; exact hs) (l := l.take k) (fun x hm => hx.out x (List.mem_of_mem_take hm)))
  have HJ := Lib.hid HJL
  clear hsl h HJL
  go_enter Tryz.func34, Tryz.ntmps34
  go_wp2
  go_loop [5, 10] (fun s5 s10 => ∃ (k : Nat) (t : ByteArray), k ≤ l.length ∧ s10 = .int .i64 k ∧ s5 = .string t ∧ Hid (t.data.toList = joinL sep.data.toList (l.take k))) (fun _ i => l.length - (intOf i).toNat)
  case atStart => exact ⟨0, _, Nat.zero_le _, rfl, rfl, rfl⟩
  case round =>
    obtain ⟨k, t, hk, rfl, rfl, HT⟩ := hrel
    have htz : t.size ≤ 630 := by
      have h1 := (HJ.out k).out
      rw [← HT.out, toList_length, List.length_take] at h1
      omega
    by_cases hlt : k < l.length
    · obtain ⟨b, off, rfl, hcp, hcl⟩ := HSL.out k hlt
      have hcell := hcl k hlt
      obtain ⟨n, hn⟩ : ∃ n, l[k] = n := ⟨_, rfl⟩
      have hnz := hx.out _ (List.getElem_mem hlt)
      rw [hn] at hcell hnz
      have HN := Lib.hid (joinL_take (sep := sep) (t := t) (show l[k]? = some n by rw [List.getElem?_eq_getElem hlt, hn]) HT.out)
      clear hcl hn
      by_cases h0 : k = 0
      · have HN2 : Hid ((t ++ n).data.toList = joinL sep.data.toList (l.take (k + 1))) := by
          have h1 := HN.out
          unfold nextJ at h1
          rw [if_pos h0] at h1
          exact h1
        have hk0 : ¬ (0 : Int) < (k : Int) := by omega
        clear h0
        go_wp2
        go_round
        case rel => exact ⟨k + 1, _, by omega, by go_num, rfl, HN2⟩
        case measure => simp [intOf]; omega
      · have HN2 : Hid ((t ++ sep ++ n).data.toList = joinL sep.data.toList (l.take (k + 1))) := by
          have h1 := HN.out
          unfold nextJ at h1
          rw [if_neg h0] at h1
          exact h1
        have hk0 : (0 : Int) < (k : Int) := by omega
        clear h0
        go_wp2
        go_round
        case rel => exact ⟨k + 1, _, by omega, by go_num, rfl, HN2⟩
        case measure => simp [intOf]; omega
    · obtain rfl : k = l.length := by omega
      rw [List.take_length] at HT
      have HE : Hid (t = ⟨(joinL sep.data.toList l).toArray⟩) := (ba_ext (by rw [HT.out]) : t = _)
      go_wp2
      go_ret
      exact ⟨by rw [HE.out]; rfl, rfl⟩

set_option maxHeartbeats 1000000 in
theorem strings33_of (B : Nat) (ea fa : Addr) (s : ByteArray) (w : World) (g : Glob w B ea fa) (htab : Hid (SpcTab w)) (hpos : 0 < s.size) (hsz : s.size ≤ 4096) (hno : Hid (NoPct s)) (hch : Hid (∀ (i : Nat) (c : UInt8), s.data.toList[i]? = some c → c.toNat < 128 ∧ c ≠ 92)) :
    Calls Tryz.prog 33 #[.string s, .string ⟨#[44]⟩] w fun e w' => ∃ v', e = .returned v' ∧ Hid (StrsB w'.heap.size w' v' (splitC s.data.toList [])) ∧ Hid (Kept B w w') := by
  have HA := Lib.hid (alone_plain B ea fa s w g hsz hno)
  have HLN : Hid ((splitC s.data.toList []).length ≤ 1000000) := (show _ ≤ _ by have h1 := splitC_length s.data.toList []; rw [toList_length] at h1; omega)
  have h6 := g.h6
  have hBw := g.hB
  clear g
  go_enter Tryz.func33, Tryz.ntmps33
  go_wp2_with (first
    | (go_at_call 57; refine HA.out.mono ?_; rintro e w1 ⟨kb, rfl, HR⟩; have HC := Lib.hid (aloneCh HR.out); have HS := Lib.hid (aloneString HR.out hsz hno)
       have HT1 : Hid (SpcTab w1) := by
         obtain ⟨S, hc, hS⟩ := HC.out
         exact htab.out.ch hc (fun hm => by have := hS 0 hm; omega) (by omega)
       unfold ptr)
    | (go_at_call 60; refine (keyStrings_any kb s _ HS hpos hsz hch HT1).mono ?_; rintro e w2 ⟨v2, rfl, HR2, HC2⟩)
    | (go_at_call 42; refine (clone_any _ v2 _ _ (StrsB.ofRow HR2.out) HLN.out).mono ?_; rintro e w3 ⟨v3, rfl, HV3, HC3⟩))
  go_ret
  exact ⟨v3, rfl, HV3, (Kept.trans HC.out ⟨[], HC2.out, by simp⟩).trans ⟨[], HC3.out, by simp⟩⟩
end Go.Proofs.YtfnncdngfggcjaaGreatDoor
