/- FnStands: its text, what it makes of a file, and what String tells of it. -/
import Derived.Test.YtfnncdngfggcjaaGreatDoorPt2
import Derived.Test.YtfnncdngfggcjaaGreatDoorSd3
namespace Go.Proofs.YtfnncdngfggcjaaGreatDoor
open Go.RowKit

theorem head_keyS {k v : ByteArray} (r : List Ln) (hk : NameB k) : ∃ b0 b1 tl, textOf (.key k v :: r) = b0 :: b1 :: tl ∧ b0.toNat < 128 := by
  have : ∃ c tl, k.data.toList = c :: tl := by
    cases h : k.data.toList with
    | nil => have := toList_length k; rw [h] at this; have := hk.pos; simp at *; omega
    | cons c tl => exact ⟨c, tl, rfl⟩
  obtain ⟨c, tl, h⟩ := this
  have hc : c.toNat < 128 := by
    have h1 := bt_at (v := k) (i := 0) (c := c) (by rw [h]; rfl)
    have h2 := nameCh_facts (hk.ch 0 hk.pos)
    omega
  show ∃ b0 b1 tl, (k.data.toList ++ 32 :: 61 :: 32 :: v.data.toList) ++ 10 :: textOf r = b0 :: b1 :: tl ∧ _
  rw [h]
  cases tl with
  | nil => exact ⟨c, 32, _, rfl, hc⟩
  | cons d tl => exact ⟨c, d, _, rfl, hc⟩

abbrev secS : ByteArray := ⟨#[115]⟩
abbrev keyK : ByteArray := ⟨#[107, 101, 121]⟩
/-- The law's premises. -/
structure SdIn (name own other ahead behind : ByteArray) : Prop where
  hn : isNameB name = true
  ho : isPlain own = true
  ht : isPlain other = true
  ha : isPlain ahead = true
  hb : isPlain behind = true
  nk : name ≠ keyK
def sdLines (name own other ahead behind : ByteArray) (here : Bool) : List Ln :=
  [.key name other, .sec secS] ++ ((if here then [.key name own] else []) ++ [.key keyK (valT ahead name behind)])
def sdKs (name own ahead behind : ByteArray) (here : Bool) : List KV := (if here then [(name, own, [])] else []) ++ [(keyK, valT ahead name behind, [])]
def sdFin (name own other ahead behind : ByteArray) (here : Bool) : List SV := [(dflt, [(name, other, [])]), (secS, sdKs name own ahead behind here)]
def sdWant (own other : ByteArray) (here : Bool) : ByteArray := if here then own else other

theorem secS_ne : secS ≠ dflt := fun h => absurd (congrArg ByteArray.size h) (by decide)
theorem secS_name : NameB secS := ⟨by decide, by decide, fun i hi => by
  have : i = 0 := by have : secS.size = 1 := rfl; omega
  subst this; decide⟩
theorem keyK_name : NameB keyK := ⟨by decide, by decide, fun i hi => by
  have h3 : keyK.size = 3 := rfl
  have : i = 0 ∨ i = 1 ∨ i = 2 := by omega
  rcases this with rfl | rfl | rfl <;> decide⟩
theorem keyK_dash : keyK ≠ dash := fun h => absurd (congrArg ByteArray.size h) (by decide)
theorem keyK_of (c : Nat) : keyOf c keyK = keyK := if_neg keyK_dash
theorem plain_vch {x : ByteArray} (h : isPlain x = true) {c : UInt8} (hc : c ∈ x.data.toList) : vch (c.toNat : Int) = true := by
  obtain ⟨i, hi⟩ := List.getElem?_of_mem hc
  have hl : i < x.size := by have := (List.getElem?_eq_some_iff.1 hi).1; rwa [toList_length] at this
  have := (valB_of h).ch i hl
  rwa [bt_at hi] at this
theorem name_vch {x : ByteArray} (h : isNameB x = true) {c : UInt8} (hc : c ∈ x.data.toList) : vch (c.toNat : Int) = true := by
  obtain ⟨i, hi⟩ := List.getElem?_of_mem hc
  have hl : i < x.size := by have := (List.getElem?_eq_some_iff.1 hi).1; rwa [toList_length] at this
  have h1 := (nameB_ch h hl).1
  rw [bt_at hi] at h1
  unfold nameCh isLetter at h1
  unfold vch isLetter
  simp at h1 ⊢
  omega

section
variable {name own other ahead behind : ByteArray}
theorem SdIn.valB (h : SdIn name own other ahead behind) : ValB (valT ahead name behind) := by
  have s1 := plain_size h.ha
  have s2 := nameB_size h.hn
  have s3 := plain_size h.hb
  have p1 := plain_pos h.ha
  have p3 := plain_pos h.hb
  have hsz := valT_size ahead name behind
  refine ⟨by omega, by omega, fun i hi => ?_, ?_, ?_⟩
  · obtain ⟨c, hc⟩ : ∃ c, (valT ahead name behind).data.toList[i]? = some c := ⟨_, List.getElem?_eq_getElem (by rw [toList_length]; exact hi)⟩
    have hm := List.mem_of_getElem? hc
    rw [bt_at hc]
    rw [valT_list] at hm
    simp only [List.mem_append, List.mem_cons] at hm
    rcases hm with hm | rfl | rfl | hm | rfl | rfl | hm
    · exact plain_vch h.ha hm
    · decide
    · decide
    · exact name_vch h.hn hm
    · decide
    · decide
    · exact plain_vch h.hb hm
  · have h1 := (valB_of h.ha).first
    unfold bt at h1 ⊢
    rw [List.getD_eq_getElem?_getD] at h1 ⊢
    rwa [valT_pre p1]
  · have h1 := (valB_of h.hb).last
    have h2 : (valT ahead name behind).size - 1 = ahead.size + (name.size + 4) + (behind.size - 1) := by omega
    rw [h2]
    unfold bt at h1 ⊢
    rw [List.getD_eq_getElem?_getD] at h1 ⊢
    rwa [valT_post]
theorem plain_no37 {x : ByteArray} (h : isPlain x = true) : NoPct x := fun i hi e => by
  have := (okAt_of h hi)
  unfold okAt isLetter at this
  rw [e] at this
  simp at this
theorem SdIn.sub (h : SdIn name own other ahead behind) : SubIn ahead name behind :=
  { fpre := plain_no37 h.ha, fpost := plain_no37 h.hb
    fname := fun i hi e => by
      have := (nameB_ch h.hn hi).1
      rw [e] at this
      exact absurd this (by decide)
    npos := (nameB_size h.hn).1
    lp := by have := plain_size h.ha; omega
    ln := by have := (nameB_size h.hn).2; omega
    lq := by have := plain_size h.hb; omega }
theorem sd_step1 (h : SdIn name own other ahead behind) : stepP false ⟨[(dflt, [])], 0, 1⟩ (.key name other) = ⟨[(dflt, [(name, other, [])])], 0, 1⟩ := by
  show (⟨putV false [(dflt, [])] 0 (keyOf 1 name) other, 0, if name = dash then 1 + 1 else 1⟩ : PS) = _
  rw [keyOf_name h.hn, if_neg (nameB_ne_dash h.hn)]
  rfl
theorem sd_step2 : stepP false ⟨[(dflt, [(name, other, [])])], 0, 1⟩ (.sec secS) = ⟨[(dflt, [(name, other, [])])] ++ [(secS, [])], 1, 1⟩ :=
  step_sec_new (p := ⟨[(dflt, [(name, other, [])])], 0, 1⟩) (by show secS ∉ [dflt]; rw [List.mem_singleton]; exact secS_ne)
theorem sd_step3 (h : SdIn name own other ahead behind) : stepP false ⟨[(dflt, [(name, other, [])])] ++ [(secS, [])], 1, 1⟩ (.key name own) = ⟨[(dflt, [(name, other, [])])] ++ [(secS, [(name, own, [])])], 1, 1⟩ :=
  step_key_new (l := [(dflt, [(name, other, [])])]) (keyOf_name h.hn 1) (nameB_ne_dash h.hn) (by simp)
theorem sd_step4 (ks : List KV) (hk : keyK ∉ ks.map (·.1)) (x : ByteArray) : stepP false ⟨[(dflt, [(name, other, [])])] ++ [(secS, ks)], 1, 1⟩ (.key keyK x) = ⟨[(dflt, [(name, other, [])])] ++ [(secS, ks ++ [(keyK, x, [])])], 1, 1⟩ :=
  step_key_new (l := [(dflt, [(name, other, [])])]) (keyK_of 1) keyK_dash hk
theorem sd_fresh (h : SdIn name own other ahead behind) : keyK ∉ ([(name, own, [])] : List KV).map (·.1) := by
  rw [List.map_cons, List.map_nil, List.mem_singleton]; exact fun e => h.nk e.symm
theorem sd_run (h : SdIn name own other ahead behind) (here : Bool) : (runP false ⟨[(dflt, [])], 0, 1⟩ (sdLines name own other ahead behind here)).v = sdFin name own other ahead behind here := by
  cases here with
  | true =>
    show (stepP false (stepP false (stepP false (stepP false ⟨[(dflt, [])], 0, 1⟩ (.key name other)) (.sec secS)) (.key name own)) (.key keyK (valT ahead name behind))).v = _
    rw [sd_step1 h, sd_step2, sd_step3 h, sd_step4 _ (sd_fresh h)]; rfl
  | false =>
    show (stepP false (stepP false (stepP false ⟨[(dflt, [])], 0, 1⟩ (.key name other)) (.sec secS)) (.key keyK (valT ahead name behind))).v = _
    rw [sd_step1 h, sd_step2, sd_step4 [] (by simp)]; rfl
theorem sd_ok (h : SdIn name own other ahead behind) (here : Bool) {txt : ByteArray} (ht : txt.data.toList = textOf (sdLines name own other ahead behind here)) : TextOK false true (sdLines name own other ahead behind here) txt := by
  refine TextOK.of ht ?_ ?_ ?_
  · cases here <;> exact head_keyS _ (nameB_of h.hn)
  · have h1 := nameB_size h.hn
    have h2 := plain_size h.ho
    have h3 := plain_size h.ht
    have h4 := plain_size h.ha
    have h5 := plain_size h.hb
    have h6 := valT_size ahead name behind
    have h0 : (textOf []).length = 0 := rfl
    have k3 : keyK.size = 3 := rfl
    have k1 : secS.size = 1 := rfl
    cases here
    · show (textOf [.key name other, .sec secS, .key keyK (valT ahead name behind)]).length ≤ 4096
      simp only [textOf_length, key_length, sec_length, h0]; omega
    · show (textOf [.key name other, .sec secS, .key name own, .key keyK (valT ahead name behind)]).length ≤ 4096
      simp only [textOf_length, key_length, sec_length, h0]; omega
  · cases here with
    | true =>
      refine ⟨⟨rfl, nameB_of h.hn, valB_of h.ht, by show (1 : Nat) < 100; decide, (dflt, []), rfl, okKey_nil⟩, ?_⟩
      rw [sd_step1 h]
      refine ⟨⟨secS_name, by simp⟩, ?_⟩
      rw [sd_step2]
      refine ⟨⟨rfl, nameB_of h.hn, valB_of h.ho, by show (1 : Nat) < 100; decide, (secS, []), rfl, okKey_nil⟩, ?_⟩
      rw [sd_step3 h]
      exact ⟨⟨rfl, keyK_name, h.valB, by show (1 : Nat) < 100; decide, (secS, [(name, own, [])]), rfl, by simp, .inl (by rw [keyK_of]; exact sd_fresh h)⟩, trivial⟩
    | false =>
      refine ⟨⟨rfl, nameB_of h.hn, valB_of h.ht, by show (1 : Nat) < 100; decide, (dflt, []), rfl, okKey_nil⟩, ?_⟩
      rw [sd_step1 h]
      refine ⟨⟨secS_name, by simp⟩, ?_⟩
      rw [sd_step2]
      exact ⟨⟨rfl, keyK_name, h.valB, by show (1 : Nat) < 100; decide, (secS, []), rfl, okKey_nil⟩, trivial⟩

theorem sd_asks (h : SdIn name own other ahead behind) (here : Bool) (B' : Nat) (w0 : World) (fb : Nat) (w1 : World) (hL : LoadedR B' false (runP false ⟨[(dflt, [])], 0, 1⟩ (sdLines name own other ahead behind here)).v w0 fb w1) :
    Asks fb secS keyK (resT ahead (sdWant own other here) behind) w1 := by
  rw [sd_run h here] at hL
  obtain ⟨ow, σ, dsv, slv, siv, mb, hF, hv, _⟩ := hL
  obtain ⟨s0, hi0, hn0, hk0⟩ := view_sec hv (i := 0) rfl
  obtain ⟨s, hi, hn, hks⟩ := view_sec hv (i := 1) rfl
  have hsz : s.name.size = 1 := by rw [hn]; rfl
  have hdot : ∀ j, j < s.name.size → bt s.name j ≠ 46 := fun j hj => by
    have : j = 0 := by omega
    subst this
    rw [hn]; decide
  have h41 := getSection_found w1 hF hi (by omega)
  rw [hn] at h41
  have mk : ∀ (j : Nat) (k : KeyA) (want : ByteArray), s.keys[j]? = some k → k.name = keyK → k.val = valT ahead name behind → isPlain want = true → AskIn B' ow w1 fb false σ dsv slv siv mb 1 s j k ahead name behind want := fun j k want hj _ hval hw =>
    { file := hF, hi := hi, hj := hj, val := hval, sub := h.sub, wno := plain_no37 hw, wsz := by have := plain_size hw; omega, dot := hdot, ssz := by omega }
  cases here with
  | true =>
    obtain ⟨k2, hj2, hn2, hv2, _⟩ := view_key hks (j := 0) (x := (name, own, [])) rfl
    obtain ⟨k, hj, hnk, hvk, _⟩ := view_key hks (j := 1) (x := (keyK, valT ahead name behind, [])) rfl
    have hA := mk 1 k own hj hnk hvk h.ho
    have hne : k.kb ≠ k2.kb := fun e => by
      have hnd := (hF.secs 1 s hi).nodupb
      have e1 : (s.keys.map (·.kb))[1]? = some k2.kb := by rw [List.getElem?_map, hj]; exact congrArg some e
      have e2 : (s.keys.map (·.kb))[0]? = some k2.kb := by rw [List.getElem?_map, hj2]; rfl
      have hl : 0 < (s.keys.map (·.kb)).length := by rw [List.length_map]; exact (List.getElem?_eq_some_iff.1 hj2).1
      exact absurd ((List.getElem?_inj hl hnd).1 (e2.trans e1.symm)) (by decide)
    refine ⟨s.sb, k.kb, h41, ?_, fun W hW => ?_, fun W hW => ?_⟩
    · have h46 := getKey_here w1 hF hi hj
      rw [show k.name = keyK from hnk] at h46
      exact h46
    · exact ends_ask k.kb w1 _ W hW (fun bb W2 hbb hW2 hb => zzEnds_here hA hj2 hn2 hv2 hne bb hbb W2 hW2 hb)
    · have hck := ((hF.secs 1 s hi).keys k (List.mem_of_getElem? hj)).key
      refine keyString_ask k.kb w1 (valT ahead name behind) _ W (((hck.ch hW (by simp)).cells 3).trans (by rw [show k.val = valT ahead name behind from hvk]; rfl)) (transform_here hA hj2 hn2 hv2 hne W hW)
  | false =>
    obtain ⟨k2, hj2, hn2, hv2, _⟩ := view_key hk0 (j := 0) (x := (name, other, [])) rfl
    obtain ⟨k, hj, hnk, hvk, _⟩ := view_key hks (j := 0) (x := (keyK, valT ahead name behind, [])) rfl
    have hA := mk 0 k other hj hnk hvk h.ht
    have hno : name ∉ s.keys.map (·.name) := by
      rw [keys_names hks]
      show name ∉ [keyK]
      rw [List.mem_singleton]; exact h.nk
    refine ⟨s.sb, k.kb, h41, ?_, fun W hW => ?_, fun W hW => ?_⟩
    · have h46 := getKey_here w1 hF hi hj
      rw [show k.name = keyK from hnk] at h46
      exact h46
    · exact ends_ask k.kb w1 _ W hW (fun bb W2 hbb hW2 hb => zzEnds_dflt hA hno hi0 hn0 hj2 hn2 hv2 bb hbb W2 hW2 hb)
    · have hck := ((hF.secs 1 s hi).keys k (List.mem_of_getElem? hj)).key
      refine keyString_ask k.kb w1 (valT ahead name behind) _ W (((hck.ch hW (by simp)).cells 3).trans (by rw [show k.val = valT ahead name behind from hvk]; rfl)) (transform_dflt hA hno hi0 hn0 hj2 hn2 hv2 W hW)
theorem sd29 (B : Nat) (ea fa : Addr) (h : SdIn name own other ahead behind) (here : Bool) (w : World) (g : Glob w B ea fa) (htab : SpcTab w) (txt : ByteArray) (ht : txt.data.toList = textOf (sdLines name own other ahead behind here)) :
    Calls Tryz.prog 29 #[.int .i64 0, .string txt, .string secS, .string keyK] w fun e w' => e = .returned (.tuple #[.string (ahead ++ sdWant own other here ++ behind), .bool true]) ∧ Hid (Kept B w w') :=
  string_of B ea fa true (sdLines name own other ahead behind here) txt secS keyK _ w (sd_ok h here ht) g (fun _ => htab) (fun B' w0 fb w1 hL => sd_asks h here B' w0 fb w1 hL)
end
end Go.Proofs.YtfnncdngfggcjaaGreatDoor
