/- Contract of impl.Children at a text of lines. -/
import Derived.Test.YtfnncdngfggcjaaGreatDoorPt1
import Derived.Test.YtfnncdngfggcjaaGreatDoorCh1
import Derived.Test.YtfnncdngfggcjaaGreatDoorIn1
import Derived.Deep.CutRange
namespace Go.Proofs.YtfnncdngfggcjaaGreatDoor
open Go.RowKit

/-- The names that begin so. -/
def kidNames (v : List SV) (p : ByteArray) : List ByteArray := (v.map (·.1)).filter fun n => hasPre n p
theorem kids_names {σ : List SecA} {v : List SV} (h : viewOf σ = v) (p : ByteArray) : (kids σ p).map (·.name) = kidNames v p := by
  unfold kids kidNames
  rw [← h, viewOf_names, List.filter_map]
  rfl
theorem secName_cell (sb : Nat) (name : ByteArray) (w : World) (h : w.cell? ⟨sb, 2, none⟩ = some (.string name)) :
    Calls Tryz.prog 50 #[.pointer (some ⟨sb, 0, none⟩)] w fun e w' => e = .returned (.string name) ∧ w = w' := by
  go_enter Tryz.func50, Tryz.ntmps50
  go_wp2
  go_ret
  exact ⟨rfl, rfl⟩
theorem Row.slot {w : World} {T : TypeId} {v : Value} {xs : List Value} (h : Row w T v xs) : ∃ a cap, v = .slice a xs.length cap ∧ ∀ (j : Nat) (u : Value), xs[j]? = some u → ∃ g, a = some ⟨g, 0, none⟩ ∧ g < w.heap.size ∧ w.cell? ⟨g, j, none⟩ = some u := by
  rcases h.form with ⟨rfl, h0⟩ | ⟨g, cap, rfl, h1, h2, h3⟩
  · subst h0; exact ⟨none, 0, rfl, fun j u h => by simp at h⟩
  · exact ⟨_, cap, rfl, fun j u hu => ⟨g, rfl, h2, h3 j u hu⟩⟩
theorem wp_normal {P : Program} {c : Code} {Q : Exit → Act → World → Prop} {a : Act} {w : World} (h : c.wp P (fun e a' w' => match e with | .normal => Q .normal a' w' | _ => False) a w) : c.wp P Q a w :=
  wp_mono h fun e _ _ h => by cases e <;> first | exact h | exact h.elim
theorem strs_take {l : List ByteArray} {k : Nat} {n : ByteArray} (h : l[k]? = some n) : strs (l.take (k + 1)) = strs (l.take k) ++ [.string n] := by
  unfold strs
  have hk := (List.getElem?_eq_some_iff.1 h)
  rw [List.take_succ_eq_append_getElem hk.1, List.map_append, hk.2]; rfl

theorem kids_mem {σ : List SecA} {p : ByteArray} {x : SecA} (h : x ∈ kids σ p) : x ∈ σ := by
  unfold kids at h
  exact (List.mem_filter.1 h).1
theorem kids_length (σ : List SecA) (p : ByteArray) : (kids σ p).length ≤ σ.length := by
  unfold kids
  exact List.length_filter_le _ _
theorem kids_ready {B' fb : Nat} {v0 : List SV} {w0 w1 : World} {name : ByteArray} (HL : LoadedR B' false v0 w0 fb w1) (hin : name ∈ v0.map (·.1)) (hlen : v0.length ≤ 1000) (hnm : ∀ x, x ∈ v0.map (·.1) → x.size ≤ 1000) (hpos : 0 < name.size) (hsz : name.size ≤ 1000) :
    ∃ own σ dsv slv siv mb, ∃ ks : List SecA, FileOK B' own w1 fb false σ dsv slv siv mb ∧ Kept B' w0 w1 ∧
      (Calls Tryz.prog 49 #[ptr fb, .string name] w1 fun e w' => ∃ v', e = .returned v' ∧ Hid (Row w' 62 v' (ks.map fun x => ptr x.sb)) ∧ Hid (Ch [] w1 w')) ∧ ks.map (·.name) = kidNames v0 (name ++ ⟨#[46]⟩) ∧ (∀ x, x ∈ ks → x ∈ σ) ∧ ks.length ≤ 1000 := by
  obtain ⟨own, σ, dsv, slv, siv, mb, hF, hvw, hk⟩ := HL
  have hnames : σ.map (·.name) = v0.map (·.1) := by rw [← hvw, viewOf_names]
  have hslen : σ.length = v0.length := by rw [← hvw]; unfold viewOf; rw [List.length_map]
  rw [← hnames] at hin
  obtain ⟨s, hsm, hsn⟩ := List.mem_map.1 hin
  obtain ⟨i, his⟩ := List.getElem?_of_mem hsm
  subst hsn
  have h1 := fileChildren_any w1 hF his hpos hsz (by rw [hslen]; exact hlen) (fun x hx => hnm x.name (by rw [← hnames]; exact List.mem_map_of_mem hx))
  have h2 := kids_names hvw (s.name ++ ⟨#[46]⟩)
  have h3 : (kids σ (s.name ++ ⟨#[46]⟩)).length ≤ 1000 := Nat.le_trans (kids_length σ _) (by rw [hslen]; exact hlen)
  have h4 : ∀ x, x ∈ kids σ (s.name ++ ⟨#[46]⟩) → x ∈ σ := fun x hx => kids_mem hx
  obtain ⟨ks, hks⟩ : ∃ ks, kids σ (s.name ++ ⟨#[46]⟩) = ks := ⟨_, rfl⟩
  rw [hks] at h1 h2 h3 h4
  exact ⟨own, σ, dsv, slv, siv, mb, ks, hF, hk, h1, h2, h4, h3⟩

set_option maxRecDepth 100000 in
set_option maxHeartbeats 4000000 in
theorem children_of (B : Nat) (ea fa : Addr) (lines : List Ln) (txt name : ByteArray) (w : World) (hT : Hid (TextOK false false lines txt)) (g : Glob w B ea fa) (hpos : 0 < name.size) (hsz : name.size ≤ 1000)
    (hin : Hid (name ∈ (runP false ⟨[(dflt, [])], 0, 1⟩ lines).v.map (·.1))) (hlen : Hid ((runP false ⟨[(dflt, [])], 0, 1⟩ lines).v.length ≤ 1000)) (hnm : Hid (∀ x, x ∈ (runP false ⟨[(dflt, [])], 0, 1⟩ lines).v.map (·.1) → x.size ≤ 1000)) :
    Calls Tryz.prog 24 #[.string txt, .string name] w fun e w' => ∃ v', e = .returned (.tuple #[v', .bool true]) ∧ Hid (StrsB w'.heap.size w' v' (kidNames (runP false ⟨[(dflt, [])], 0, 1⟩ lines).v (name ++ ⟨#[46]⟩))) ∧ Hid (Kept B w w') := by
  have hmf : ∀ (fn : Fn) (first cap : Array Value) (w : World), (Instr.makeFunc fn first cap).run Tryz.prog w = .ok (.func fn first cap) w := fun _ _ _ _ => rfl
  have HC0 : Hid (Ch [] w ((w.alloc (.cells #[.slice none 0 0] 26)).alloc (.cells #[.bool false] 4))) := ((Ch.refl [] w).alloc _).alloc _
  have HLD := Lib.hid (loaded_of _ ea fa 0 false false (.inl ⟨rfl, rfl⟩) lines txt _ hT (g.ch HC0.out (by simp)).up (fun ht => by cases ht))
  have HB1 := Lib.hid ((Blk.new w 26 [.slice none 0 0]).alloc (.cells #[.bool false] 4))
  have HB2 := Lib.hid (Blk.newM (w.alloc (.cells #[.slice none 0 0] 26)) 4 [.bool false] (w.heap.size + 1) (by simp))
  have hBw := g.hB
  obtain ⟨v0, hv0⟩ : ∃ v0, (runP false ⟨[(dflt, [])], 0, 1⟩ lines).v = v0 := ⟨_, rfl⟩
  rw [hv0] at hin hlen hnm HLD ⊢
  clear g hT hv0
  go_enter_defers Tryz.func24, Tryz.ntmps24
  go_wp2_with (first
    | (go_at_call 40; go_loud (refine HLD.out.mono ?_)
       intro e w1 hh
       obtain ⟨fb, hfb, HL⟩ := hh
       subst hfb
       obtain ⟨own, σ, dsv, slv, siv, mb, ks, hF, hk, hCS, hKN, hKM, hKL⟩ := kids_ready HL.out hin.out hlen.out hnm.out hpos hsz
       have HF1 := Lib.hid hF
       have HCS := Lib.hid hCS
       have HKN := Lib.hid hKN
       have HKM := Lib.hid hKM
       have HKL := Lib.hid hKL
       have hsz2 : ((w.alloc (.cells #[.slice none 0 0] 26)).alloc (.cells #[.bool false] 4)).heap.size = w.heap.size + 2 := by simp
       have HW : Hid (Kept B w w1) := Kept.trans ⟨[], HC0.out, by simp⟩ (hk.down (by omega))
       rw [hsz2] at hk
       obtain ⟨S, hS1, hS2⟩ := hk
       have hlt1 : w.heap.size + 2 ≤ w1.heap.size := by have := hS1.size; rw [hsz2] at this; exact this
       have HB3 : Hid (Blk w1 w.heap.size 26 [.slice none 0 0]) := HB1.out.ch hS1 (fun hm => by have := hS2 _ hm; omega)
       have HB4 : Hid (Blk w1 (w.heap.size + 1) 4 [.bool false]) := HB2.out.ch hS1 (fun hm => by have := hS2 _ hm; omega)
       clear hS1 hS2 hsz2 hF hCS hKN hKM hKL
       unfold ptr at *)
    | (go_at_call 49; refine HCS.out.mono ?_
       rintro e w2 ⟨v', rfl, HR2, HC2⟩
       obtain ⟨a2, cap2, rfl, hcl2⟩ := HR2.out.slot
       have HCL2 := Lib.hid hcl2
       rw [List.length_map]
       have HF2 := Lib.hid (HF1.out.nil HC2.out)
       have HB5 : Hid (Blk w2 w.heap.size 26 [.slice none 0 0]) := HB3.out.ch HC2.out (by simp)
       have HB6 : Hid (Blk w2 (w.heap.size + 1) 4 [.bool false]) := HB4.out.ch HC2.out (by simp)
       have hlt2 : w.heap.size + 2 ≤ w2.heap.size := Nat.le_trans hlt1 HC2.out.size
       have HW2 : Hid (Kept B w w2) := HW.out.trans ⟨[], HC2.out, by simp⟩
       have HAL : Hid (Alien w2 [w.heap.size]) := fun b hb => by rw [List.mem_singleton] at hb; subst hb; exact ⟨_, _, HB5.out, by decide⟩
       clear HB3 HB4 HF1 HW hcl2))
  go_loopg [18] (ks.length + 1) (fun gf s18 wx => ∃ (k : Nat) (sv : Value), k ≤ ks.length ∧ gf = ks.length + 1 - k ∧ s18 = .int .i64 k ∧ Hid (Blk wx w.heap.size 26 [sv]) ∧ Hid (Blk wx (w.heap.size + 1) 4 [.bool false]) ∧
    Hid (Row wx 9 sv (strs ((ks.map (·.name)).take k))) ∧ Hid (Ch [w.heap.size] w2 wx) ∧ Hid (∀ g, sv.ownBlock = some g → w2.heap.size ≤ g))
  case atStart => exact ⟨0, _, Nat.zero_le _, rfl, rfl, HB5, HB6, Row.nil _ _, Ch.refl _ _, fun g hg => by cases hg⟩
  case round =>
    obtain ⟨k, sv, hk, hgk, rfl, HA, HBB, HRW, HCX, HOW⟩ := hrel
    obtain ⟨sa, scap, hsv, _⟩ := HRW.out.slot
    obtain ⟨sn, hsn⟩ : ∃ sn, (strs ((ks.map (·.name)).take k)).length = sn := ⟨_, rfl⟩
    rw [hsn] at hsv
    subst hsv
    by_cases hlt : k < ks.length
    · obtain ⟨x, hx⟩ : ∃ x, ks[k] = x := ⟨_, rfl⟩
      have hx? : ks[k]? = some x := by rw [List.getElem?_eq_getElem hlt, hx]
      obtain ⟨g, hg, hgl, hgc⟩ := HCL2.out k (.pointer (some ⟨x.sb, 0, none⟩)) (by rw [List.getElem?_map, hx?]; rfl)
      subst hg
      have hgne := HR2.out.ne HB5.out (by decide) g rfl
      have hcell : wr.cell? ⟨g, k, none⟩ = some (.pointer (some ⟨x.sb, 0, none⟩)) := (HCX.out.cell (p := ⟨g, k, none⟩) hgl (by simpa using hgne)).trans hgc
      obtain ⟨i, hi⟩ := List.getElem?_of_mem (HKM.out x (List.mem_of_getElem? hx?))
      have hn2 : wr.cell? ⟨x.sb, 2, none⟩ = some (.string x.name) := ((HF2.out.alien HCX.out HAL.out).secs i x hi).sec.cells 2
      have HST := Lib.hid (strs_take (l := ks.map (·.name)) (k := k) (n := x.name) (by rw [List.getElem?_map, hx?]; rfl))
      have HLE : Hid ((strs ((ks.map (·.name)).take k)).length + 1 ≤ 1000000) := by
        have h1 : (strs ((ks.map (·.name)).take k)).length ≤ ks.length := by unfold strs; rw [List.length_map, List.length_take, List.length_map]; omega
        have h2 := HKL.out
        show _ + 1 ≤ 1000000
        omega
      have hac : wr.cell? ⟨w.heap.size, 0, none⟩ = some (.slice sa sn scap) := HA.out.cells 0
      have hal := HA.out.lt
      have hn2d : wr.drew.cell? ⟨x.sb, 2, none⟩ = some (.string x.name) := hn2
      have hrn : ∀ g, (Value.slice sa sn scap).ownBlock = some g → g ≠ w.heap.size := HRW.out.ne HA.out (by decide)
      clear hx hx? hgne hgc hi
      go_wp2
      refine wp_normal ?_
      go_region_law
        (first
          | (go_simp; go_at_call 50; refine (secName_cell _ _ _ hn2d).mono ?_; rintro e w' ⟨rfl, rfl⟩)
          | (refine step_append_row rfl (.tmp 22) (.tmp 25) 26 rfl 9 _ 16 Tryz.underlying26 info9 rfl (.slice sa sn scap) _ rfl (HRW.out.drew.alloc _) ⟨wr.heap.size, 0, none⟩ 1 (.string x.name) rfl (by simp) rfl HLE.out (by omega) ?_; intro g3 cap3 w4 h1 h2 h3 h4; have hA4 := (HA.out.drew.alloc (.cells #[.string x.name] 9)).ch h2 (fun hm => by simp at hm; exact hrn _ hm rfl); have hc4 : w4.cell? ⟨w.heap.size, 0, none⟩ = some (.slice sa sn scap) := hA4.cells 0; have hf4 := hA4.frees; have HA4 := Lib.hid hA4; clear hA4))
      all_goals
        apply ‹∀ (a : Act) (w : World), Code.wp _ _ _ a w → _›
        have HA5 : Hid (Blk (w4.setCell ⟨w.heap.size, 0, none⟩ (.slice (some ⟨g3, 0, none⟩) (sn + 1) cap3)) w.heap.size 26 [.slice (some ⟨g3, 0, none⟩) (sn + 1) cap3]) := HA4.out.set 0 _
        have HCA : Hid (Ch [w.heap.size] w2 w4) := (HCX.out.drew.alloc _).trans h2 (fun y hy => .inr (HOW.out y (by simpa using hy)))
        have HCB : Hid (Ch [w.heap.size] w2 (w4.setCell ⟨w.heap.size, 0, none⟩ (.slice (some ⟨g3, 0, none⟩) (sn + 1) cap3))) := HCA.out.set (by simp) _
        have HOG : Hid (w2.heap.size ≤ g3) := by
          rcases h3 with h | h
          · exact HOW.out _ h
          · have := HCX.out.size; show w2.heap.size ≤ g3; rw [h]; simp [World.size_drew]; omega
        have HB7 : Hid (Blk (w4.setCell ⟨w.heap.size, 0, none⟩ (.slice (some ⟨g3, 0, none⟩) (sn + 1) cap3)) (w.heap.size + 1) 4 [.bool false]) := (((HBB.out.drew.alloc _).ch h2 (fun hm => HRW.out.ne HBB.out (by decide) _ (by simpa using hm) rfl)).setCell (by simp) _)
        have HR7 : Hid (Row (w4.setCell ⟨w.heap.size, 0, none⟩ (.slice (some ⟨g3, 0, none⟩) (sn + 1) cap3)) 9 (.slice (some ⟨g3, 0, none⟩) (sn + 1) cap3) (strs ((ks.map (·.name)).take (k + 1)))) := by
          rw [HST.out]
          rw [hsn] at h1
          exact Row.setCell h1 (fun g hg => by cases hg; exact h1.ne HA4.out (by decide) _ rfl) _
        clear h1 h2 h3 h4
        have hkl : ks.length ≤ 1000 := HKL.out
        go_wp2
        go_roundg (ks.length + 1 - (k + 1))
        case measure => omega
        case rel => exact ⟨k + 1, _, by omega, rfl, by go_num, HA5, HB7, HR7, HCB, fun g hg => by cases hg; exact HOG.out⟩
    · obtain rfl : k = ks.length := by omega
      rw [List.take_of_length_le (by rw [List.length_map]; exact Nat.le_refl _), HKN.out] at HRW
      have hac : wr.cell? ⟨w.heap.size, 0, none⟩ = some (.slice sa sn scap) := HA.out.cells 0
      have haf := HA.out.frees
      have hbc : wr.cell? ⟨w.heap.size + 1, 0, none⟩ = some (.bool false) := HBB.out.cells 0
      have hbf := HBB.out.frees
      go_wp2
      refine leaves_cons (f := 48) (args := #[.pointer (some ⟨w.heap.size, 0, none⟩), .pointer (some ⟨w.heap.size + 1, 0, none⟩)]) (by simp) (by simp [go_sem]) ?_
      refine (idle_48 _ _ _).mono ?_
      rintro e u' w'' ⟨rfl, rfl, rfl⟩
      simp [Leaves, settle, results, Tryz.results24, go_sem, hac, hbc]
      refine ⟨?_, ?_⟩
      · have hR := Row.setCell (Row.setCell HRW.out (a := ⟨w.heap.size, 0, none⟩) (HRW.out.ne HA.out (by decide)) (.slice sa sn scap)) (a := ⟨w.heap.size + 1, 0, none⟩) (HRW.out.ne HBB.out (by decide)) (.bool true)
        have hS := StrsB.ofRow hR
        simp only [World.size_setCell] at hS
        exact hS
      · exact HW2.out.trans ⟨[w.heap.size, w.heap.size + 1], ((HCX.out.mono (by simp)).set (by simp) _).set (by simp) _, fun b hb => by simp at hb; omega⟩
end Go.Proofs.YtfnncdngfggcjaaGreatDoor
