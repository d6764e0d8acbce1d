/- A file with one key more in one of its sections, or with one key turned. -/
import Derived.Test.YtfnncdngfggcjaaGreatDoorFilM
namespace Go.Proofs.YtfnncdngfggcjaaGreatDoor
open Go.RowKit

theorem map_set_same {α β : Type} (f : α → β) {σ : List α} {i : Nat} {s s' : α} (hi : σ[i]? = some s) (hf : f s' = f s) : (σ.set i s').map f = σ.map f := by
  rw [List.map_set, hf]
  apply List.ext_getElem?
  intro j
  rw [List.getElem?_set]
  by_cases h : i = j
  · subst h
    have hl := (List.getElem?_eq_some_iff.1 hi).1
    have h2 : σ[i] = s := Option.some.inj ((List.getElem?_eq_getElem hl).symm.trans hi)
    simp [hl, h2]
  · simp [h]

theorem FileOK.B_le {B : Nat} {own : Nat → Nat} {w : World} {fb : Nat} {sh : Bool} {σ : List SecA} {dsv slv siv : Value} {mb : Nat} (h : FileOK B own w fb sh σ dsv slv siv mb) : B ≤ w.heap.size := by
  have h1 := h.ge (b := fb) (by rw [h.ofb]; decide)
  have h2 := h.file.lt
  omega

/-- The file behind a step that turned blocks of one section alone. -/
theorem FileOK.turn {B : Nat} {own : Nat → Nat} {w w' : World} {fb : Nat} {sh : Bool} {σ : List SecA} {dsv slv siv : Value} {mb : Nat} (h : FileOK B own w fb sh σ dsv slv siv mb)
    {i : Nat} {s s' : SecA} (hi : σ[i]? = some s) {S : List Nat} (c : Ch S w w') (hS : ∀ b, b ∈ S → own b = i + 2 ∧ (∀ T cs, Blk w b T cs → T ≠ 62 ∧ (T = 70 → False)))
    (hname : s'.name = s.name) (hgb : s'.gb = s.gb) (hgc : s'.gcap = s.gcap)
    (hs' : SecOK (fun b => if b < w.heap.size then own b else i + 2) i w' fb s') :
    FileOK B (fun b => if b < w.heap.size then own b else i + 2) w' fb sh (σ.set i s') dsv slv siv mb := by
  have hB := h.B_le
  have no1 : ∀ b, own b = 1 → b ∉ S := fun b hb hm => by have := (hS b hm).1; omega
  have e : ∀ b, b < w.heap.size → (fun b => if b < w.heap.size then own b else i + 2) b = own b := fun b hb => if_pos hb
  refine { old := fun b hb => ?_, file := h.file.ch c (no1 _ h.ofb), sl := ?_, si := ?_, mp := ?_, secs := ?_, ofb := (e _ h.file.lt).trans h.ofb, omb := (e _ h.mp.lt).trans h.omb, osl := fun g hg => (e _ (h.sl.lt hg)).trans (h.osl g hg), osi := fun g hg => (e _ (h.si.lt hg)).trans (h.osi g hg), nodup := ?_ }
  · exact (e b (by omega)).trans (h.old b hb)
  · rw [map_set_same _ hi hname]; exact h.sl.ch c (fun g hg => no1 _ (h.osl g hg))
  · rw [map_set_same (fun _ => Value.int .i64 0) hi (s' := s') rfl]; exact h.si.ch c (fun g hg => no1 _ (h.osi g hg))
  · rw [map_set_same _ hi (by rw [hname, hgb, hgc])]; exact h.mp.ch c (no1 _ h.omb)
  · intro j t ht
    by_cases hj : i = j
    · subst hj
      have hl := (List.getElem?_eq_some_iff.1 hi).1
      rw [List.getElem?_set_self hl] at ht
      cases ht
      exact hs'
    · rw [List.getElem?_set_ne hj] at ht
      refine ((h.secs j t ht).own e).other c ?_
      intro b hb
      obtain ⟨h1, h2⟩ := hS b hb
      refine ⟨?_, fun T cs hT => ⟨(h2 T cs hT).1, fun h70 => (h2 T cs hT).2 h70⟩⟩
      intro h'
      have h3 : (if b < w.heap.size then own b else i + 2) = j + 2 := h'
      rw [h1] at h3
      have h4 : i + 2 = j + 2 := by
        split at h3
        · exact h3
        · exact h3
      omega
  · rw [map_set_same _ hi hname]; exact h.nodup

def SecA.addKey (s : SecA) (kb g cap : Nat) (name val : ByteArray) : SecA :=
  { s with klv := .slice (some ⟨g, 0, none⟩) ((strs (s.keys.map (·.name))).length + 1) cap, keys := s.keys ++ [⟨kb, name, val, false, .slice none 0 0, []⟩] }
def SecA.pairs (s : SecA) : List (ByteArray × Value) := s.keys.map fun k => (k.name, ptr k.kb)
theorem SecA.pairs_names (s : SecA) : s.pairs.map (·.1) = s.keys.map (·.name) := by unfold SecA.pairs; rw [List.map_map]; rfl

theorem SecOK.blocks {own : Nat → Nat} {i : Nat} {w : World} {fb : Nat} {s : SecA} (h : SecOK own i w fb s) :
    ∀ b, b ∈ (s.km :: s.kh :: s.sb :: s.klv.ownBlock.toList) → own b = i + 2 ∧ ∀ T cs, Blk w b T cs → T = 96 ∨ T = 9 := by
  intro b hb
  simp only [List.mem_cons, Option.mem_toList] at hb
  rcases hb with rfl | rfl | rfl | hb
  · exact ⟨h.okm, fun T cs hT => absurd rfl (h.km.ne hT)⟩
  · exact ⟨h.okh, fun T cs hT => absurd rfl (let ⟨_, hl⟩ := h.kh; hl.ne hT)⟩
  · refine ⟨h.osb, fun T cs hT => .inl ?_⟩
    by_cases e : T = 96
    · exact e
    · exact absurd rfl (hT.ne h.sec e)
  · refine ⟨h.okl _ hb, fun T cs hT => .inr ?_⟩
    by_cases e : T = 9
    · exact e
    · exact absurd rfl (h.kl.ne hT (Ne.symm e) _ hb)

theorem FileOK.addKey {B : Nat} {own : Nat → Nat} {w w' : World} {fb : Nat} {sh : Bool} {σ : List SecA} {dsv slv siv : Value} {mb : Nat} (h : FileOK B own w fb sh σ dsv slv siv mb)
    {i : Nat} {s : SecA} (hi : σ[i]? = some s) {name val : ByteArray} {kb g cap : Nat} (k : NewKeyP w w' fb s.sb s.name s.km s.kh s.klv s.pairs name val kb g cap) (hno : name ∉ s.keys.map (·.name)) :
    ∃ own', (∀ b, b < w.heap.size → own' b = own b) ∧ FileOK B own' w' fb sh (σ.set i (s.addKey kb g cap name val)) dsv slv siv mb ∧ Native B w (s.km :: s.kh :: s.sb :: s.klv.ownBlock.toList) := by
  have hs := h.secs i s hi
  have hbl := hs.blocks
  refine ⟨fun b => if b < w.heap.size then own b else i + 2, fun b hb => if_pos hb, ?_, ?_⟩
  · have e : ∀ b, b < w.heap.size → (fun b => if b < w.heap.size then own b else i + 2) b = own b := fun b hb => if_pos hb
    have en : ∀ b, w.heap.size ≤ b → (fun b => if b < w.heap.size then own b else i + 2) b = i + 2 := fun b hb => if_neg (by omega)
    have notIn : ∀ {b T cs}, Blk w b T cs → T ≠ 96 → T ≠ 9 → b ∉ (s.km :: s.kh :: s.sb :: s.klv.ownBlock.toList) := fun hb h1 h2 hm => ((hbl _ hm).2 _ _ hb).elim h1 h2
    refine h.turn hi k.ch (fun b hb => ⟨(hbl b hb).1, fun T cs hT => by rcases (hbl b hb).2 T cs hT with rfl | rfl <;> exact ⟨by decide, by decide⟩⟩) rfl rfl rfl ?_
    have hs2 := hs.own e
    refine { sec := ?_, km := ?_, kh := k.hkh, kl := ?_, ne := hs.ne, keys := ?_, osb := hs2.osb, okm := hs2.okm, okh := hs2.okh, okl := ?_, okb := ?_, grp := ?_, nodup := ?_, nodupb := ?_ }
    · have := k.sec; rw [s.pairs_names] at this; exact this
    · have := k.hkm; simpa [SecA.pairs, SecA.addKey] using this
    · have := k.hkl; rw [s.pairs_names] at this; simpa [SecA.addKey, strs] using this
    · intro k0 hk0
      rcases List.mem_append.1 hk0 with hk0 | hk0
      · have hk1 := hs.keys k0 hk0
        refine hk1.ch k.ch (notIn hk1.key (by decide) (by decide)) (fun g' hg' => ?_) (fun x hx => notIn (hk1.shk x hx) (by decide) (by decide))
        obtain ⟨cur, cap', _, hb', _⟩ := hk1.shr.blk hg'
        exact notIn hb' (by decide) (by decide)
      · rw [List.mem_singleton] at hk0
        subst hk0
        exact ⟨k.key, Row.nil _ _, (fun x hx => by cases hx), (fun h => by cases h), fun _ => rfl⟩
    · intro g' hg'
      cases hg'
      rcases k.own with h1 | h1
      · exact (e _ (hs.kl.lt h1)).trans (hs.okl g h1)
      · exact en g h1
    · intro k0 hk0
      rcases List.mem_append.1 hk0 with hk0 | hk0
      · exact hs2.okb k0 hk0
      · rw [List.mem_singleton] at hk0
        subst hk0
        exact ⟨en kb k.nkb, fun x hx => by cases hx⟩
    · obtain ⟨cur, cap', hv, hb', _⟩ := hs.grp.blk (g := s.gb) rfl
      exact hs.grp.ch k.ch (fun g' hg' => by cases hg'; exact notIn hb' (by decide) (by decide))
    · show ((s.keys ++ [_]).map _).Nodup
      rw [List.map_append]
      refine List.nodup_append.2 ⟨hs.nodup, by simp, fun a ha b hb => ?_⟩
      simp at hb
      subst hb
      exact fun e => hno (e ▸ ha)
    · show ((s.keys ++ [_]).map _).Nodup
      rw [List.map_append]
      refine List.nodup_append.2 ⟨hs.nodupb, by simp, fun a ha b hb => ?_⟩
      simp at hb
      subst hb
      obtain ⟨k0, hk0, rfl⟩ := List.mem_map.1 ha
      have := (hs.keys k0 hk0).key.lt
      have := k.nkb
      omega
  · intro b hb
    obtain ⟨h1, h2⟩ := hbl b hb
    refine ⟨h.ge (by rw [h1]; omega), fun T cs hT => ?_⟩
    rcases h2 T cs hT with rfl | rfl <;> decide

/-- One key is turned, in its own cells, or by shadows that are new. -/
theorem FileOK.setKeyG {B : Nat} {own : Nat → Nat} {w w' : World} {fb : Nat} {sh : Bool} {σ : List SecA} {dsv slv siv : Value} {mb : Nat} (h : FileOK B own w fb sh σ dsv slv siv mb)
    {i j : Nat} {s : SecA} {k k' : KeyA} (hi : σ[i]? = some s) (hj : s.keys[j]? = some k) (c : Ch [k.kb] w w') (hkb : k'.kb = k.kb) (hname : k'.name = k.name)
    (hkey : Blk w' k.kb 107 (keyCells s.sb es k'.name k'.val k'.auto false k'.shv)) (hshr : Row w' 70 k'.shv (k'.shs.map fun x => ptr x.1))
    (hshk : ∀ x, x ∈ k'.shs → Blk w' x.1 107 (keyCells s.sb es k'.name x.2 false true (.slice none 0 0))) (hau : k'.auto = true → bt k'.name 0 = 35) (hnsh : k'.shs = [] → k'.shv = .slice none 0 0)
    (hosh : ∀ x, x ∈ k'.shs → x ∈ k.shs ∨ w.heap.size ≤ x.1) :
    ∃ own', (∀ b, b < w.heap.size → own' b = own b) ∧ FileOK B own' w' fb sh (σ.set i { s with keys := s.keys.set j k' }) dsv slv siv mb ∧ Native B w [k.kb] := by
  have hs := h.secs i s hi
  have hkm : k ∈ s.keys := List.mem_of_getElem? hj
  have hk := hs.keys k hkm
  have hok := hs.okb k hkm
  have hT : ∀ T cs, Blk w k.kb T cs → T = 107 := fun T cs hb => by
    by_cases e : T = 107
    · exact e
    · exact absurd rfl (hb.ne hk.key e)
  have hl := (List.getElem?_eq_some_iff.1 hj).1
  refine ⟨fun b => if b < w.heap.size then own b else i + 2, fun b hb => if_pos hb, ?_, ?_⟩
  · have e : ∀ b, b < w.heap.size → (fun b => if b < w.heap.size then own b else i + 2) b = own b := fun b hb => if_pos hb
    have notIn : ∀ {b T cs}, Blk w b T cs → T ≠ 107 → b ∉ [k.kb] := fun hb h1 hm => by rw [List.mem_singleton] at hm; subst hm; exact h1 (hT _ _ hb)
    have notM : ∀ {b l}, MapAt w b l → b ∉ [k.kb] := fun hb hm => by rw [List.mem_singleton] at hm; subst hm; exact hb.ne hk.key rfl
    have notR : ∀ {T v xs}, Row w T v xs → T ≠ 107 → ∀ g, v.ownBlock = some g → g ∉ [k.kb] := fun hr h1 g hg => by
      obtain ⟨cur, cap', _, hb', _⟩ := hr.blk hg
      exact notIn hb' h1
    have hs2 := hs.own e
    refine h.turn hi c (fun b hb => ?_) rfl rfl rfl ?_
    · rw [List.mem_singleton] at hb
      subst hb
      exact ⟨hok.1, fun T cs hb => by rw [hT T cs hb]; exact ⟨by decide, by decide⟩⟩
    refine { sec := hs.sec.ch c (notIn hs.sec (by decide)), km := ?_, kh := (let ⟨l, hl⟩ := hs.kh; ⟨l, hl.ch c (notM hl)⟩), kl := ?_, ne := hs.ne, keys := ?_, osb := hs2.osb, okm := hs2.okm, okh := hs2.okh, okl := hs2.okl, okb := ?_, grp := hs.grp.ch c (notR hs.grp (by decide)), nodup := ?_, nodupb := ?_ }
    · show MapAt w' s.km ((s.keys.set j k').map _)
      rw [map_set_same _ hj (by rw [hname, hkb])]
      exact hs.km.ch c (notM hs.km)
    · show Row w' 9 s.klv (strs ((s.keys.set j k').map _))
      rw [map_set_same _ hj hname]
      exact hs.kl.ch c (notR hs.kl (by decide))
    · intro k0 hk0
      obtain ⟨n, hn, hn2⟩ := List.getElem_of_mem hk0
      have hn3 : (s.keys.set j k')[n]? = some k0 := by rw [← hn2]; exact List.getElem?_eq_getElem hn
      by_cases hjn : j = n
      · subst hjn
        rw [List.getElem?_set_self hl] at hn3
        cases hn3
        exact ⟨by rw [hkb]; exact hkey, hshr, hshk, hau, hnsh⟩
      · rw [List.getElem?_set_ne hjn] at hn3
        have hk0m : k0 ∈ s.keys := List.mem_of_getElem? hn3
        have hne : k0.kb ≠ k.kb := fun e' => by
          have h1 : (s.keys.map (·.kb))[n]? = some k.kb := by rw [List.getElem?_map, hn3]; simp [e']
          have h2 : (s.keys.map (·.kb))[j]? = some k.kb := by rw [List.getElem?_map, hj]; rfl
          have hlj : j < (s.keys.map (·.kb)).length := by simpa using hl
          exact hjn ((List.getElem?_inj hlj hs.nodupb).1 (h2.trans h1.symm))
        have hk1 := hs.keys k0 hk0m
        have hshk : ∀ x, x ∈ k0.shs → x.1 ∉ [k.kb] := fun x hx hm => by
          rw [List.mem_singleton] at hm
          have h1 := hk1.shk x hx
          rw [hm] at h1
          have h2 := hk.key
          unfold Blk at h1 h2
          rw [h1] at h2
          simp [keyCells] at h2
        exact hk1.ch c (by rw [List.mem_singleton]; exact hne) (notR hk1.shr (by decide)) hshk
    · intro k0 hk0
      obtain ⟨n, hn, hn2⟩ := List.getElem_of_mem hk0
      have hn3 : (s.keys.set j k')[n]? = some k0 := by rw [← hn2]; exact List.getElem?_eq_getElem hn
      by_cases hjn : j = n
      · subst hjn
        rw [List.getElem?_set_self hl] at hn3
        cases hn3
        refine ⟨by rw [hkb]; exact (hs2.okb k hkm).1, fun x hx => ?_⟩
        rcases hosh x hx with h1 | h1
        · exact (hs2.okb k hkm).2 x h1
        · exact if_neg (by omega)
      · rw [List.getElem?_set_ne hjn] at hn3
        exact hs2.okb k0 (List.mem_of_getElem? hn3)
    · show ((s.keys.set j k').map _).Nodup
      rw [map_set_same _ hj hname]; exact hs.nodup
    · show ((s.keys.set j k').map _).Nodup
      rw [map_set_same _ hj hkb]; exact hs.nodupb
  · intro b hb
    rw [List.mem_singleton] at hb
    subst hb
    refine ⟨h.ge (by rw [hok.1]; omega), fun T cs hb => ?_⟩
    rw [hT T cs hb]; decide

/-- One key is turned, in its own cells alone. -/
theorem FileOK.setKey {B : Nat} {own : Nat → Nat} {w w' : World} {fb : Nat} {sh : Bool} {σ : List SecA} {dsv slv siv : Value} {mb : Nat} (h : FileOK B own w fb sh σ dsv slv siv mb)
    {i j : Nat} {s : SecA} {k k' : KeyA} (hi : σ[i]? = some s) (hj : s.keys[j]? = some k) (c : Ch [k.kb] w w') (hkb : k'.kb = k.kb) (hname : k'.name = k.name) (hshv : k'.shv = k.shv) (hshs : k'.shs = k.shs)
    (hkey : Blk w' k.kb 107 (keyCells s.sb es k'.name k'.val k'.auto false k'.shv)) (hau : k'.auto = true → bt k'.name 0 = 35) :
    ∃ own', (∀ b, b < w.heap.size → own' b = own b) ∧ FileOK B own' w' fb sh (σ.set i { s with keys := s.keys.set j k' }) dsv slv siv mb ∧ Native B w [k.kb] := by
  have hk := (h.secs i s hi).keys k (List.mem_of_getElem? hj)
  refine h.setKeyG hi hj c hkb hname hkey ?_ (fun x hx => ?_) hau (fun e => ?_) (fun x hx => .inl (by rw [← hshs]; exact hx))
  · rw [hshv, hshs]
    refine hk.shr.ch c (fun g hg hm => ?_)
    rw [List.mem_singleton] at hm
    exact hk.shr.ne hk.key (by decide) g hg hm
  · rw [hshs] at hx
    have hx1 := hk.shk x hx
    rw [hname]
    refine hx1.ch c (fun hm => ?_)
    rw [List.mem_singleton] at hm
    rw [hm] at hx1
    have h1 := hx1
    have h2 := hk.key
    unfold Blk at h1 h2
    rw [h1] at h2
    simp [keyCells] at h2
  · rw [hshv]
    exact hk.nsh (by rw [← hshs]; exact e)
end Go.Proofs.YtfnncdngfggcjaaGreatDoor
