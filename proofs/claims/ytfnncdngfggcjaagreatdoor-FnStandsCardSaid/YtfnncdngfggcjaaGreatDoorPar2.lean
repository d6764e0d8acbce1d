/- What one line makes of a file: the section's and the key's contracts over FileOK. -/
import Derived.Test.YtfnncdngfggcjaaGreatDoorPar1
namespace Go.Proofs.YtfnncdngfggcjaaGreatDoor
open Go.RowKit

theorem viewOf_names (σ : List SecA) : (viewOf σ).map (·.1) = σ.map (·.name) := by unfold viewOf; rw [List.map_map]; rfl
theorem SecA.view_names (s : SecA) : s.view.2.map (·.1) = s.keys.map (·.name) := by unfold SecA.view; rw [List.map_map]; rfl

/-- A section's line: the file behind it, the section that is turned to. -/
def SecDone (B : Nat) (fb : Nat) (sh : Bool) (v0 : List SV) (dsv : Value) (mb : Nat) (name : ByteArray) (w : World) (e : Ending) (w' : World) : Prop :=
  ∃ own σ slv siv cur s, e = .returned (.tuple #[ptr s.sb, .nilIface]) ∧ FileOK B own w' fb sh σ dsv slv siv mb ∧ σ[cur]? = some s ∧ viewOf σ = (secV v0 name).1 ∧ cur = (secV v0 name).2 ∧ ∃ S, Ch S w w' ∧ Native B w S

theorem newSection_file (B : Nat) (own : Nat → Nat) (fb mb : Nat) (sh : Bool) (σ : List SecA) (dsv slv siv : Value) (name : ByteArray) (w : World) (hF : FileOK B own w fb sh σ dsv slv siv mb) (hn : 0 < name.size) (hlen : σ.length ≤ 100) :
    Calls Tryz.prog 78 #[ptr fb, .string name] w fun e w' => SecDone B fb sh (viewOf σ) dsv mb name w e w' := by
  by_cases hm : name ∈ σ.map (·.name)
  · obtain ⟨s, hs, rfl⟩ := List.mem_map.1 hm
    obtain ⟨i, hi⟩ := List.getElem?_of_mem hs
    refine (newSection_old w hF hi hn (by omega)).mono ?_
    rintro e w' ⟨rfl, rfl⟩
    have h2 := secV_old (n := s.name) (v := viewOf σ) (i := i) (x := s.view) (by rw [viewOf_names]; exact hF.nodup) (by unfold viewOf; rw [List.getElem?_map, hi]; rfl) rfl
    exact ⟨own, σ, slv, siv, i, s, rfl, hF, hi, by rw [h2], by rw [h2], [], Ch.refl _ _, fun b hb => by cases hb⟩
  · refine (newSection_new fb mb B own sh σ dsv slv siv name w hF hn hm hlen).mono ?_
    rintro e w' ⟨sb, km, kl, kh, gb, cap, g1, cap1, g2, cap2, n, rfl, hns⟩
    obtain ⟨own', _, hF', hnat⟩ := hF.addSec hns hm
    have h2 := secV_new (n := name) (v := viewOf σ) (by rw [viewOf_names]; exact hm)
    refine ⟨own', _, _, _, σ.length, secNew sb km kl kh gb cap name, rfl, hF', by simp, ?_, ?_, _, hns.ch, hnat⟩
    · rw [h2]; unfold viewOf; rw [List.map_append]; rfl
    · rw [h2]; unfold viewOf; rw [List.length_map]

/-- The section's comment is set anew, to nothing. -/
theorem FileOK.setCom {B : Nat} {own : Nat → Nat} {w : World} {fb : Nat} {sh : Bool} {σ : List SecA} {dsv slv siv : Value} {mb i : Nat} {s : SecA} (h : FileOK B own w fb sh σ dsv slv siv mb) (hi : σ[i]? = some s) :
    ∃ own', FileOK B own' (w.setCell ⟨s.sb, 1, none⟩ (.string es)) fb sh σ dsv slv siv mb ∧ Native B w [s.sb] := by
  have hs := h.secs i s hi
  have c : Ch [s.sb] w (w.setCell ⟨s.sb, 1, none⟩ (.string es)) := (Ch.refl [s.sb] w).set (by simp) _
  have hT : ∀ T cs, Blk w s.sb T cs → T = 96 := fun T cs hb => by
    by_cases e : T = 96
    · exact e
    · exact absurd rfl (hb.ne hs.sec e)
  have notIn : ∀ {b T cs}, Blk w b T cs → T ≠ 96 → b ∉ [s.sb] := fun hb h1 hm => by rw [List.mem_singleton] at hm; subst hm; exact h1 (hT _ _ hb)
  have notM : ∀ {b l}, MapAt w b l → b ∉ [s.sb] := fun hb hm => by rw [List.mem_singleton] at hm; subst hm; exact hb.ne hs.sec rfl
  have notR : ∀ {T v xs}, Row w T v xs → T ≠ 96 → ∀ g, v.ownBlock = some g → g ∉ [s.sb] := fun hr h1 g hg => by
    obtain ⟨cur, cap', _, hb', _⟩ := hr.blk hg
    exact notIn hb' h1
  have e : ∀ b, b < w.heap.size → (fun b => if b < w.heap.size then own b else i + 2) b = own b := fun b hb => if_pos hb
  have hs2 := hs.own e
  refine ⟨fun b => if b < w.heap.size then own b else i + 2, ?_, ?_⟩
  · have := h.turn (s' := s) hi c (fun b hb => by rw [List.mem_singleton] at hb; subst hb; exact ⟨hs.osb, fun T cs hb => by rw [hT T cs hb]; exact ⟨by decide, by decide⟩⟩) rfl rfl rfl
      { sec := hs.sec.set 1 (.string es), km := hs.km.ch c (notM hs.km), kh := (let ⟨l, hl⟩ := hs.kh; ⟨l, hl.ch c (notM hl)⟩), kl := hs.kl.ch c (notR hs.kl (by decide)), ne := hs.ne,
        keys := fun k hk => (hs.keys k hk).ch c (notIn (hs.keys k hk).key (by decide)) (notR (hs.keys k hk).shr (by decide)) (fun x hx => notIn ((hs.keys k hk).shk x hx) (by decide)),
        osb := hs2.osb, okm := hs2.okm, okh := hs2.okh, okl := hs2.okl, okb := hs2.okb, grp := hs.grp.ch c (notR hs.grp (by decide)), nodup := hs.nodup, nodupb := hs.nodupb }
    have e2 : σ.set i s = σ := by
      apply List.ext_getElem?
      intro j
      by_cases hj : i = j
      · subst hj; rw [List.getElem?_set_self (List.getElem?_eq_some_iff.1 hi).1, hi]
      · rw [List.getElem?_set_ne hj]
    rw [e2] at this
    exact this
  · intro b hb
    rw [List.mem_singleton] at hb
    subst hb
    refine ⟨h.ge (by rw [hs.osb]; omega), fun T cs hb => ?_⟩
    rw [hT T cs hb]; decide

/-- A key's line: the file behind NewKey. -/
def KeyDone (B : Nat) (fb : Nat) (sh : Bool) (v0 : List SV) (cur : Nat) (sb : Nat) (dsv : Value) (mb : Nat) (name val : ByteArray) (w : World) (e : Ending) (w' : World) : Prop :=
  ∃ (own : Nat → Nat) (σ : List SecA) (slv siv : Value) (s : SecA) (j : Nat) (k : KeyA), e = .returned (.tuple #[ptr k.kb, .nilIface]) ∧ FileOK B own w' fb sh σ dsv slv siv mb ∧ σ[cur]? = some s ∧ s.sb = sb ∧ s.keys[j]? = some k ∧ k.name = name ∧ viewOf σ = putV sh v0 cur name val ∧ ∃ S, Ch S w w' ∧ Native B w S

theorem viewOf_set {σ : List SecA} {i : Nat} {s s' : SecA} (hi : σ[i]? = some s) {f : SV → SV} (hf : f s.view = s'.view) : viewOf (σ.set i s') = (viewOf σ).modify i f := by
  unfold viewOf
  rw [List.map_set]
  apply List.ext_getElem?
  intro j
  have hl := (List.getElem?_eq_some_iff.1 hi).1
  rw [List.getElem?_modify, List.getElem?_set]
  by_cases h : i = j
  · subst h
    have h2 : (σ.map SecA.view)[i]? = some s.view := by rw [List.getElem?_map, hi]; rfl
    rw [h2]
    simp [hl, hf]
  · simp [h]

theorem newKey_fresh (B : Nat) (own : Nat → Nat) (fb mb : Nat) (sh : Bool) (σ : List SecA) (dsv slv siv : Value) (i : Nat) (s : SecA) (name val : ByteArray) (w : World) (hF : FileOK B own w fb sh σ dsv slv siv mb) (hi : σ[i]? = some s) (hn : 0 < name.size)
    (hno : name ∉ s.keys.map (·.name)) (hlen : s.keys.length ≤ 1000) :
    Calls Tryz.prog 79 #[ptr s.sb, .string name, .string val] w fun e w' => KeyDone B fb sh (viewOf σ) i s.sb dsv mb name val w e w' := by
  have hs := hF.secs i s hi
  obtain ⟨lh, hkh⟩ := hs.kh
  refine (newKey_new fb s.sb sh dsv slv siv mb s.name s.km s.kh s.klv s.pairs lh name val w hF.file hs.sec hs.km hkh (by rw [s.pairs_names]; exact hs.kl) hs.ne hn (by rw [s.pairs_names]; exact hno) (by unfold SecA.pairs; rw [List.length_map]; exact hlen)).mono ?_
  rintro e w' ⟨kb, g, cap, rfl, hnk⟩
  obtain ⟨own', _, hF', hnat⟩ := hF.addKey hi hnk hno
  have hl := (List.getElem?_eq_some_iff.1 hi).1
  refine ⟨own', _, slv, siv, s.addKey kb g cap name val, s.keys.length, ⟨kb, name, val, false, .slice none 0 0, []⟩, rfl, hF', by rw [List.getElem?_set_self hl], rfl, by unfold SecA.addKey; simp, rfl, ?_, _, hnk.ch, hnat⟩
  refine viewOf_set hi ?_
  show (s.name, putK sh (s.keys.map KeyA.view) name val) = _
  rw [putK_new (by rw [← s.view_names] at hno; exact hno)]
  unfold SecA.addKey SecA.view
  rw [List.map_append]
  rfl

/-- The stores that follow NewKey: isAutoIncrement, the comment (nothing). -/
theorem FileOK.setAuto {B : Nat} {own : Nat → Nat} {w : World} {fb : Nat} {sh : Bool} {σ : List SecA} {dsv slv siv : Value} {mb i j : Nat} {s : SecA} {k : KeyA} (h : FileOK B own w fb sh σ dsv slv siv mb) (hi : σ[i]? = some s) (hj : s.keys[j]? = some k) (a : Bool) (ha : a = true → bt k.name 0 = 35) :
    ∃ own' σ' s' k', FileOK B own' (w.setCell ⟨k.kb, 4, none⟩ (.bool a)) fb sh σ' dsv slv siv mb ∧ σ'[i]? = some s' ∧ s'.sb = s.sb ∧ s'.keys[j]? = some k' ∧ k'.kb = k.kb ∧ viewOf σ' = viewOf σ ∧ Native B w [k.kb] := by
  have hs := h.secs i s hi
  have hk := (hs.keys k (List.mem_of_getElem? hj)).key
  have hl := (List.getElem?_eq_some_iff.1 hi).1
  have hl2 := (List.getElem?_eq_some_iff.1 hj).1
  obtain ⟨own', _, h1, h2⟩ := h.setKey (k' := { k with auto := a }) hi hj ((Ch.refl [k.kb] w).set (by simp) _) rfl rfl rfl rfl (hk.set 4 (.bool a)) ha
  refine ⟨own', _, { s with keys := s.keys.set j { k with auto := a } }, { k with auto := a }, h1, List.getElem?_set_self hl, rfl, List.getElem?_set_self hl2, rfl, ?_, h2⟩
  have := viewOf_set (σ := σ) (i := i) (s := s) (s' := { s with keys := s.keys.set j { k with auto := a } }) hi (f := id) (by
    unfold SecA.view
    simp only [id]
    rw [map_set_same KeyA.view hj (s' := { k with auto := a }) rfl])
  rw [this, List.modify_id]
theorem FileOK.setKCom {B : Nat} {own : Nat → Nat} {w : World} {fb : Nat} {sh : Bool} {σ : List SecA} {dsv slv siv : Value} {mb i j : Nat} {s : SecA} {k : KeyA} (h : FileOK B own w fb sh σ dsv slv siv mb) (hi : σ[i]? = some s) (hj : s.keys[j]? = some k) :
    ∃ own' σ' s' k', FileOK B own' (w.setCell ⟨k.kb, 1, none⟩ (.string es)) fb sh σ' dsv slv siv mb ∧ σ'[i]? = some s' ∧ s'.sb = s.sb ∧ s'.keys[j]? = some k' ∧ k'.kb = k.kb ∧ viewOf σ' = viewOf σ ∧ Native B w [k.kb] := by
  have hs := h.secs i s hi
  have hk := (hs.keys k (List.mem_of_getElem? hj)).key
  have hl := (List.getElem?_eq_some_iff.1 hi).1
  have hl2 := (List.getElem?_eq_some_iff.1 hj).1
  obtain ⟨own', _, h1, h2⟩ := h.setKey (k' := k) hi hj ((Ch.refl [k.kb] w).set (by simp) _) rfl rfl rfl rfl (hk.set 1 (.string es)) (hs.keys k (List.mem_of_getElem? hj)).au
  refine ⟨own', _, { s with keys := s.keys.set j k }, k, h1, List.getElem?_set_self hl, rfl, List.getElem?_set_self hl2, rfl, ?_, h2⟩
  have := viewOf_set (σ := σ) (i := i) (s := s) (s' := { s with keys := s.keys.set j k }) hi (f := id) (by
    unfold SecA.view
    simp only [id]
    rw [map_set_same KeyA.view hj (s' := k) rfl])
  rw [this, List.modify_id]
end Go.Proofs.YtfnncdngfggcjaaGreatDoor
