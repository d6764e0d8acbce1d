/- Contract of NewKey over FileOK. -/
import Derived.Test.YtfnncdngfggcjaaGreatDoorNk1
namespace Go.Proofs.YtfnncdngfggcjaaGreatDoor
open Go.RowKit

/-- The hash of a section's keys is set anew. -/
theorem FileOK.putHash {B : Nat} {own : Nat → Nat} {w : World} {fb : Nat} {sh : Bool} {σ : List SecA} {dsv slv siv : Value} {mb i : Nat} {s : SecA} (h : FileOK B own w fb sh σ dsv slv siv mb) (hi : σ[i]? = some s) (k : ByteArray) (v : Value) :
    ∃ own', FileOK B own' (putW w s.kh k v) fb sh σ dsv slv siv mb ∧ Native B w [s.kh] := by
  have hs := h.secs i s hi
  obtain ⟨lh, hkh⟩ := hs.kh
  have c : Ch [s.kh] w (putW w s.kh k v) := Ch.put (Ch.refl [s.kh] w) (.inl (by simp)) _ _
  have notIn : ∀ {b T cs}, Blk w b T cs → b ∉ [s.kh] := fun hb hm => by rw [List.mem_singleton] at hm; subst hm; exact hkh.ne hb rfl
  have notR : ∀ {T v xs}, Row w T v xs → ∀ g, v.ownBlock = some g → g ∉ [s.kh] := fun hr g hg => by
    obtain ⟨cur, cap', _, hb', _⟩ := hr.blk hg
    exact notIn hb'
  have e : ∀ b, b < w.heap.size → (fun b => if b < w.heap.size then own b else i + 2) b = own b := fun b hb => if_pos hb
  have hs2 := hs.own e
  refine ⟨fun b => if b < w.heap.size then own b else i + 2, ?_, ?_⟩
  · have := h.turn (s' := s) hi c (fun b hb => by rw [List.mem_singleton] at hb; subst hb; exact ⟨hs.okh, fun T cs hb => absurd rfl (hkh.ne hb)⟩) rfl rfl rfl
      { sec := hs.sec.ch c (notIn hs.sec), km := hs.km.ch c (by simpa using hs.ne), kh := ⟨_, hkh.put k v⟩, kl := hs.kl.ch c (notR hs.kl), ne := hs.ne,
        keys := fun k hk => (hs.keys k hk).ch c (notIn (hs.keys k hk).key) (notR (hs.keys k hk).shr) (fun x hx => notIn ((hs.keys k hk).shk x hx)),
        osb := hs2.osb, okm := hs2.okm, okh := hs2.okh, okl := hs2.okl, okb := hs2.okb, grp := hs.grp.ch c (notR hs.grp), nodup := hs.nodup, nodupb := hs.nodupb }
    have e2 : σ.set i s = σ := by
      apply List.ext_getElem?
      intro j
      by_cases hj : i = j
      · subst hj; rw [List.getElem?_set_self (List.getElem?_eq_some_iff.1 hi).1, hi]
      · rw [List.getElem?_set_ne hj]
    rw [e2] at this
    exact this
  · intro b hb
    rw [List.mem_singleton] at hb
    subst hb
    exact ⟨h.ge (by rw [hs.okh]; omega), fun T cs hb => absurd rfl (hkh.ne hb)⟩

theorem newKey_old (B : Nat) (own : Nat → Nat) (fb mb : Nat) (sh : Bool) (σ : List SecA) (dsv slv siv : Value) (i : Nat) (s : SecA) (j : Nat) (k : KeyA) (val : ByteArray) (w : World) (hF : FileOK B own w fb sh σ dsv slv siv mb) (hi : σ[i]? = some s)
    (hj : s.keys[j]? = some k) (hn : 0 < k.name.size) (hlen : s.keys.length ≤ 1000) (hsh : sh = true → bt k.name 0 ≠ 35 ∧ k.val ≠ val ∧ k.shs = []) :
    Calls Tryz.prog 79 #[ptr s.sb, .string k.name, .string val] w fun e w' => KeyDone B fb sh (viewOf σ) i s.sb dsv mb k.name val w e w' := by
  have hs := hF.secs i s hi
  have hk := hs.keys k (List.mem_of_getElem? hj)
  have hl := (List.getElem?_eq_some_iff.1 hi).1
  have hl2 := (List.getElem?_eq_some_iff.1 hj).1
  have hview : ∀ k' : KeyA, k'.view = (if sh then (k.view.1, k.view.2.1, k.view.2.2 ++ [val]) else (k.view.1, val, k.view.2.2)) → viewOf (σ.set i { s with keys := s.keys.set j k' }) = putV sh (viewOf σ) i k.name val := fun k' hk' => by
    refine viewOf_set hi ?_
    show (s.name, putK sh (s.keys.map KeyA.view) k.name val) = _
    rw [putK_old (n := k.name) (j := j) (x := k.view) (by rw [List.map_map]; exact hs.nodup) (by rw [List.getElem?_map, hj]; rfl) rfl]
    unfold SecA.view
    simp only [List.map_set, hk']
  cases sh with
  | false =>
    refine (newKey_set B own fb mb σ dsv slv siv i s j k val w hF hi hj hn hlen).mono ?_
    rintro e w' ⟨rfl, rfl⟩
    have c1 : Ch [k.kb] w (w.setCell ⟨k.kb, 3, none⟩ (.string val)) := (Ch.refl [k.kb] w).set (by simp) _
    obtain ⟨own', _, h1, h2⟩ := hF.setKey (k' := { k with val := val }) hi hj c1 rfl rfl rfl rfl (hk.key.set 3 (.string val)) hk.au
    obtain ⟨own2, h3, h4⟩ := h1.putHash (i := i) (s := { s with keys := s.keys.set j { k with val := val } }) (List.getElem?_set_self hl) k.name (.string val)
    refine ⟨own2, _, slv, siv, { s with keys := s.keys.set j { k with val := val } }, j, { k with val := val }, rfl, h3, List.getElem?_set_self hl, rfl, List.getElem?_set_self hl2, rfl, hview _ rfl, [k.kb, s.kh], ?_, ?_⟩
    · exact (c1.mono (by simp)).trans (Ch.put (Ch.refl [s.kh] _) (.inl (by simp)) _ _) (by simp)
    · intro b hb
      simp only [List.mem_cons, List.not_mem_nil, or_false] at hb
      rcases hb with rfl | rfl
      · exact h2 _ (by simp)
      · obtain ⟨lh, hkh⟩ := hs.kh
        exact ⟨hF.ge (by rw [hs.okh]; omega), fun T cs hb => absurd rfl (hkh.ne hb)⟩
  | true =>
    obtain ⟨g1, g2, g3⟩ := hsh rfl
    have hau : k.auto = false := by
      cases h : k.auto with
      | false => rfl
      | true => exact absurd (hk.au h) g1
    refine (newKey_shadow B own fb mb σ dsv slv siv i s j k val w hF hi hj hn hlen hau g3 g2).mono ?_
    rintro e w' ⟨xb, g, cap, rfl, HK1, HX1, HR1, HXB, HC⟩
    obtain ⟨own', _, h1, h2⟩ := hF.setKeyG (k' := { k with auto := false, shv := .slice (some ⟨g, 0, none⟩) 1 cap, shs := [(xb, val)] }) hi hj HC.out rfl rfl HK1.out HR1.out (fun x hx => by rw [List.mem_singleton] at hx; subst hx; exact HX1.out) (fun h => by cases h) (fun h => by cases h)
      (fun x hx => by rw [List.mem_singleton] at hx; subst hx; exact .inr HXB.out)
    refine ⟨own', _, slv, siv, { s with keys := s.keys.set j { k with auto := false, shv := .slice (some ⟨g, 0, none⟩) 1 cap, shs := [(xb, val)] } }, j, { k with auto := false, shv := .slice (some ⟨g, 0, none⟩) 1 cap, shs := [(xb, val)] }, rfl, h1, List.getElem?_set_self hl, rfl, List.getElem?_set_self hl2, rfl, hview _ ?_, [k.kb], HC.out, h2⟩
    unfold KeyA.view
    rw [g3]; rfl

theorem newKey_file (B : Nat) (own : Nat → Nat) (fb mb : Nat) (sh : Bool) (σ : List SecA) (dsv slv siv : Value) (i : Nat) (s : SecA) (name val : ByteArray) (w : World) (hF : FileOK B own w fb sh σ dsv slv siv mb) (hi : σ[i]? = some s) (hn : 0 < name.size)
    (hok : okKey sh s.view.2 name val) :
    Calls Tryz.prog 79 #[ptr s.sb, .string name, .string val] w fun e w' => KeyDone B fb sh (viewOf σ) i s.sb dsv mb name val w e w' := by
  have hlen : s.keys.length ≤ 1000 := by have := hok.1; unfold SecA.view at this; rwa [List.length_map] at this
  rcases hok.2 with h | ⟨j, x, hj, hx, hsh⟩
  · rw [s.view_names] at h
    exact newKey_fresh B own fb mb sh σ dsv slv siv i s name val w hF hi hn h hlen
  · unfold SecA.view at hj
    rw [List.getElem?_map] at hj
    obtain ⟨k, hk, hkx⟩ := Option.map_eq_some_iff.1 hj
    subst hkx
    have hkn : k.name = name := hx
    subst hkn
    refine newKey_old B own fb mb sh σ dsv slv siv i s j k val w hF hi hk hn hlen (fun h => ?_)
    obtain ⟨g1, g2, g3⟩ := hsh h
    exact ⟨g1, g2, List.map_eq_nil_iff.1 g3⟩
end Go.Proofs.YtfnncdngfggcjaaGreatDoor
