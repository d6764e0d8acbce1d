/- A file with one section more, with one key more. -/
import Derived.Test.YtfnncdngfggcjaaGreatDoorNk1
namespace Go.Proofs.YtfnncdngfggcjaaGreatDoor
open Go.RowKit

theorem FileOK.ge {B : Nat} {own : Nat → Nat} {w : World} {fb : Nat} {sh : Bool} {σ : List SecA} {dsv slv siv : Value} {mb : Nat} (h : FileOK B own w fb sh σ dsv slv siv mb) {b : Nat} (hb : own b ≠ 0) : B ≤ b := by
  rcases Nat.lt_or_ge b B with h' | h'
  · exact absurd (h.old b h') hb
  · exact h'

theorem FileOK.fileBlocks {B : Nat} {own : Nat → Nat} {w : World} {fb : Nat} {sh : Bool} {σ : List SecA} {dsv slv siv : Value} {mb : Nat} (h : FileOK B own w fb sh σ dsv slv siv mb) :
    ∀ b, b ∈ (mb :: fb :: (slv.ownBlock.toList ++ siv.ownBlock.toList)) → own b = 1 ∧ ∀ T cs, Blk w b T cs → T = 102 ∨ T = 9 ∨ T = 3 := by
  intro b hb
  simp only [List.mem_cons, List.mem_append, Option.mem_toList] at hb
  rcases hb with rfl | rfl | hb | hb
  · exact ⟨h.omb, fun T cs hT => absurd rfl (h.mp.ne hT)⟩
  · refine ⟨h.ofb, fun T cs hT => .inl ?_⟩
    by_cases e : T = 102
    · exact e
    · exact absurd rfl (hT.ne h.file e)
  · refine ⟨h.osl _ hb, fun T cs hT => .inr (.inl ?_)⟩
    by_cases e : T = 9
    · exact e
    · exact absurd rfl (h.sl.ne hT (Ne.symm e) _ hb)
  · refine ⟨h.osi _ hb, fun T cs hT => .inr (.inr ?_)⟩
    by_cases e : T = 3
    · exact e
    · exact absurd rfl (h.si.ne hT (Ne.symm e) _ hb)

def secNew (sb km kl kh gb cap : Nat) (name : ByteArray) : SecA := ⟨sb, km, kh, .slice (some ⟨kl, 0, none⟩) 0 10, gb, cap, name, []⟩

theorem FileOK.addSec {B : Nat} {own : Nat → Nat} {w w' : World} {fb : Nat} {sh : Bool} {σ : List SecA} {dsv slv siv : Value} {mb : Nat} (h : FileOK B own w fb sh σ dsv slv siv mb)
    {name : ByteArray} {sb km kl kh gb cap g1 cap1 g2 cap2 n : Nat} (k : NewSec w w' fb mb sh σ dsv slv siv name sb km kl kh gb cap g1 cap1 g2 cap2 n) (hno : name ∉ σ.map (·.name)) :
    ∃ own', (∀ b, b < w.heap.size → own' b = own b) ∧ FileOK B own' w' fb sh (σ ++ [secNew sb km kl kh gb cap name]) dsv (.slice (some ⟨g1, 0, none⟩) ((strs (List.map (fun x => x.name) σ)).length + 1) cap1) (.slice (some ⟨g2, 0, none⟩) ((σ.map fun _ => Value.int .i64 0).length + 1) cap2) mb ∧
      Native B w (mb :: fb :: (slv.ownBlock.toList ++ siv.ownBlock.toList)) := by
  have hfb := h.file.lt
  have hmb := h.mp.lt
  have hBfb : B ≤ fb := h.ge (by rw [h.ofb]; decide)
  have n0 := k.n0
  refine ⟨fun b => if b < w.heap.size then own b else if b < n then 1 else σ.length + 2, fun b hb => if_pos hb, ?_, ?_⟩
  · have new : ∀ b, n ≤ b → (if b < w.heap.size then own b else if b < n then 1 else σ.length + 2) = σ.length + 2 := fun b hb => by
      rw [if_neg (by omega), if_neg (by omega)]
    refine { old := fun b hb => ?_, file := k.file, sl := ?_, si := ?_, mp := ?_, secs := ?_, ofb := ?_, omb := ?_, osl := ?_, osi := ?_, nodup := ?_ }
    · show (if _ then _ else _) = 0
      rw [if_pos (by omega)]; exact h.old b hb
    · have := k.sl
      simpa [strs, secNew] using this
    · have := k.si
      simpa using this
    · have := k.mp
      simpa [secNew] using this
    · intro i s hs
      rcases Nat.lt_or_ge i σ.length with hi | hi
      · rw [List.getElem?_append_left hi] at hs
        refine ((h.secs i s hs).own (own' := fun b => if b < w.heap.size then own b else if b < n then 1 else σ.length + 2) (fun b hb => if_pos hb)).other k.ch ?_
        intro b hb
        have hlt : b < w.heap.size := by
          simp only [List.mem_cons, List.mem_append, Option.mem_toList] at hb
          rcases hb with rfl | rfl | hb | hb
          · exact hmb
          · exact hfb
          · exact h.sl.lt hb
          · exact h.si.lt hb
        obtain ⟨h1, h2⟩ := h.fileBlocks b hb
        refine ⟨?_, fun T cs hT => ?_⟩
        · show (if _ then _ else _) ≠ _
          rw [if_pos hlt, h1]; omega
        · rcases h2 T cs hT with rfl | rfl | rfl <;> decide
      · have hi' : i = σ.length := by
          have := (List.getElem?_eq_some_iff.1 hs).1
          simp at this; omega
        subst hi'
        simp at hs
        subst hs
        exact { sec := k.sec, km := k.hkm, kh := ⟨_, k.hkh⟩, kl := k.hkl, ne := k.ne, keys := (fun x hx => by cases hx), osb := new _ k.nsb, okm := new _ k.nkm, okh := new _ k.nkh,
                okl := (fun g hg => by cases hg; exact new _ k.nkl), okb := (fun x hx => by cases hx), grp := k.grp, nodup := List.nodup_nil, nodupb := List.nodup_nil }
    · show (if _ then _ else _) = 1
      rw [if_pos hfb]; exact h.ofb
    · show (if _ then _ else _) = 1
      rw [if_pos hmb]; exact h.omb
    · intro g hg
      cases hg
      show (if _ then _ else _) = 1
      by_cases hl : g1 < w.heap.size
      · rw [if_pos hl]
        rcases k.own1 with h1 | h1
        · exact h.osl _ h1
        · omega
      · rw [if_neg hl, if_pos k.lt1]
    · intro g hg
      cases hg
      show (if _ then _ else _) = 1
      by_cases hl : g2 < w.heap.size
      · rw [if_pos hl]
        rcases k.own2 with h1 | h1
        · exact h.osi _ h1
        · omega
      · rw [if_neg hl, if_pos k.lt2]
    · rw [List.map_append]
      refine List.nodup_append.2 ⟨h.nodup, by simp, fun a ha b hb => ?_⟩
      simp [secNew] at hb
      subst hb
      exact fun e => hno (e ▸ ha)
  · intro b hb
    obtain ⟨h1, h2⟩ := h.fileBlocks b hb
    refine ⟨h.ge (by rw [h1]; decide), fun T cs hT => ?_⟩
    rcases h2 T cs hT with rfl | rfl | rfl <;> decide
end Go.Proofs.YtfnncdngfggcjaaGreatDoor
