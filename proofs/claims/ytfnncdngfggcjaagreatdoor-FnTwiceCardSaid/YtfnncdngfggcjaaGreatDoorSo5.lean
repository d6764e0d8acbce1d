/- Contract of impl.Load at a text of lines, at options 0 and 2. -/
import Derived.Test.YtfnncdngfggcjaaGreatDoorPt1
import Derived.Test.YtfnncdngfggcjaaGreatDoorLoS
namespace Go.Proofs.YtfnncdngfggcjaaGreatDoor
open Go.RowKit

/-- What a loaded file must be for it to be told. -/
structure Told (sh : Bool) (v : List SV) : Prop where
  pos : 0 < v.length
  len : v.length ≤ 1000
  keys : ∀ s, s ∈ v → s.2.length ≤ 1000
  ok : sh = true → ShOK v
theorem SecsT.form {w : World} {sh : Bool} {v : List SV} {ov : Value} (h : SecsT w sh v ov) : ∃ a c, ov = .slice a v.length c := by
  obtain ⟨l, _, h2, _⟩ := h
  obtain ⟨a, c, e, _⟩ := h2.form
  exact ⟨a, c, e⟩
theorem told_ready {B' fb : Nat} {sh : Bool} {v0 : List SV} {w0 w1 : World} (HL : LoadedR B' sh v0 w0 fb w1) (ht : Told sh v0) :
    Kept B' w0 w1 ∧ Calls Tryz.prog 53 #[ptr fb, .bool sh] w1 fun e w' => ∃ a c, e = .returned (.slice a v0.length c) ∧ Hid (SecsT w' sh v0 (.slice a v0.length c)) ∧ Hid (Ch [] w1 w') := by
  obtain ⟨own, σ, dsv, slv, siv, mb, hF, hvw, hk⟩ := HL
  refine ⟨hk, ?_⟩
  have hslen : σ.length = v0.length := by rw [← hvw]; exact (viewOf_len σ).symm
  refine (sectionsOf_any sh w1 hF (by rw [hslen]; exact ht.pos) (by rw [hslen]; exact ht.len) (fun i s hi => ?_) (fun h => by rw [hvw]; exact ht.ok h)).mono ?_
  · have := ht.keys s.view (by rw [← hvw]; unfold viewOf; exact List.mem_map_of_mem (List.mem_of_getElem? hi))
    rwa [view_len] at this
  · rintro e w' ⟨ov, rfl, h1, h2⟩
    rw [hvw] at h1
    obtain ⟨a, c, rfl⟩ := h1.out.form
    exact ⟨a, c, rfl, h1, h2⟩

set_option maxRecDepth 100000 in
set_option maxHeartbeats 4000000 in
theorem load_of (B : Nat) (ea fa : Addr) (opt : Int) (sh t : Bool) (hopt : (opt = 0 ∧ sh = false) ∨ (opt = 2 ∧ sh = true)) (lines : List Ln) (txt : ByteArray) (w : World) (hT : Hid (TextOK sh t lines txt)) (g : Glob w B ea fa) (htab : Hid (t = true → SpcTab w))
    (htold : Hid (Told sh (runP sh ⟨[(dflt, [])], 0, 1⟩ lines).v)) :
    Calls Tryz.prog 26 #[.int .i64 opt, .string txt] w fun e w' => ∃ a c, e = .returned (.tuple #[.slice a (runP sh ⟨[(dflt, [])], 0, 1⟩ lines).v.length c, .bool true]) ∧
      Hid (SecsT w' sh (runP sh ⟨[(dflt, [])], 0, 1⟩ lines).v (.slice a (runP sh ⟨[(dflt, [])], 0, 1⟩ lines).v.length c)) ∧ Hid (Kept B w w') := by
  have hmf : ∀ (fn : Fn) (first cap : Array Value) (w : World), (Instr.makeFunc fn first cap).run Tryz.prog w = .ok (.func fn first cap) w := fun _ _ _ _ => rfl
  have HC0 : Hid (Ch [] w ((w.alloc (.cells #[.slice none 0 0] 22)).alloc (.cells #[.bool false] 4))) := ((Ch.refl [] w).alloc _).alloc _
  have HLD := Lib.hid (loaded_of _ ea fa opt sh t hopt lines txt _ hT (g.ch HC0.out (by simp)).up (fun ht => (htab.out ht).nil HC0.out))
  have HB1 := Lib.hid ((Blk.new w 22 [.slice none 0 0]).alloc (.cells #[.bool false] 4))
  have HB2 := Lib.hid (Blk.newM (w.alloc (.cells #[.slice none 0 0] 22)) 4 [.bool false] (w.heap.size + 1) (by simp))
  have hBw := g.hB
  obtain ⟨v0, hv0⟩ : ∃ v0, (runP sh ⟨[(dflt, [])], 0, 1⟩ lines).v = v0 := ⟨_, rfl⟩
  rw [hv0] at htold HLD ⊢
  clear g hT hv0
  rcases hopt with ⟨rfl, rfl⟩ | ⟨rfl, rfl⟩
  all_goals
    go_enter_defers Tryz.func26, Tryz.ntmps26
    go_wp2_with (first
      | (go_at_call 40; go_loud (refine HLD.out.mono ?_)
         intro e w1 hh
         obtain ⟨fb, hfb, HL⟩ := hh
         subst hfb
         obtain ⟨hk, h53⟩ := told_ready HL.out htold.out
         have H53 := Lib.hid h53
         have hsz2 : ((w.alloc (.cells #[.slice none 0 0] 22)).alloc (.cells #[.bool false] 4)).heap.size = w.heap.size + 2 := by simp
         have HW : Hid (Kept B w w1) := Kept.trans ⟨[], HC0.out, by simp⟩ (hk.down (by omega))
         rw [hsz2] at hk
         obtain ⟨S, hS1, hS2⟩ := hk
         have HB3 : Hid (Blk w1 w.heap.size 22 [.slice none 0 0]) := HB1.out.ch hS1 (fun hm => by have := hS2 _ hm; omega)
         have HB4 : Hid (Blk w1 (w.heap.size + 1) 4 [.bool false]) := HB2.out.ch hS1 (fun hm => by have := hS2 _ hm; omega)
         clear hS1 hS2 hsz2 h53
         unfold ptr at *)
      | (go_at_call 53; refine H53.out.mono ?_
         rintro e w2 ⟨a, c, rfl, HT2, HC2⟩
         have HB5 : Hid (Blk w2 w.heap.size 22 [.slice none 0 0]) := HB3.out.ch HC2.out (by simp)
         have HB6 : Hid (Blk w2 (w.heap.size + 1) 4 [.bool false]) := HB4.out.ch HC2.out (by simp)
         have HW2 : Hid (Kept B w w2) := HW.out.trans ⟨[], HC2.out, by simp⟩
         have hc1 := HB5.out.cells
         have hc2 := HB6.out.cells
         have hf1 := HB5.out.frees
         have hf2 := HB6.out.frees
         clear HB3 HB4 HW H53))
    refine leaves_cons (f := 52) (args := #[.pointer (some ⟨w.heap.size, 0, none⟩), .pointer (some ⟨w.heap.size + 1, 0, none⟩)]) (by simp) (by simp [go_sem]) ?_
    refine (idle_52 _ _ _).mono ?_
    rintro e u' w'' ⟨rfl, rfl, rfl⟩
    simp [Leaves, settle, results, Tryz.results26, go_sem, hc1, hc2]
    have hch : Ch [w.heap.size, w.heap.size + 1] w2 ((w2.setCell ⟨w.heap.size, 0, none⟩ (.slice a v0.length c)).setCell ⟨w.heap.size + 1, 0, none⟩ (.bool true)) := ((Ch.refl _ _).set (by simp) _).set (by simp) _
    refine ⟨a, c, ⟨rfl, rfl⟩, ?_, ?_⟩
    · refine HT2.out.ch hch (fun b hb T cs hT => ?_)
      simp only [List.mem_cons, List.not_mem_nil, or_false] at hb
      rcases hb with rfl | rfl
      · rw [hT.type HB5.out]; decide
      · rw [hT.type HB6.out]; decide
    · exact HW2.out.trans ⟨[w.heap.size, w.heap.size + 1], hch, fun b hb => by simp at hb; omega⟩
end Go.Proofs.YtfnncdngfggcjaaGreatDoor
