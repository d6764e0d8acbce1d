/- Contract of impl.loaded at a text of lines. -/
import Derived.Test.YtfnncdngfggcjaaGreatDoorPar3
import Derived.Test.YtfnncdngfggcjaaGreatDoorOp1
import Derived.Test.YtfnncdngfggcjaaGreatDoorAl
namespace Go.Proofs.YtfnncdngfggcjaaGreatDoor
open Go.RowKit

/-- A file that is loaded. -/
def LoadedR (B : Nat) (sh : Bool) (fin : List SV) (w : World) (fb : Nat) (w' : World) : Prop :=
  ∃ own σ dsv slv siv mb, FileOK B own w' fb sh σ dsv slv siv mb ∧ viewOf σ = fin ∧ Kept B w w'
theorem LoadedR.nil {B : Nat} {sh : Bool} {fin : List SV} {w w1 w2 : World} {fb : Nat} (h : LoadedR B sh fin w fb w1) (c : Ch [] w1 w2) : LoadedR B sh fin w fb w2 := by
  obtain ⟨own, σ, dsv, slv, siv, mb, hF, hv, hk⟩ := h
  exact ⟨own, σ, dsv, slv, siv, mb, hF.nil c, hv, hk.trans ⟨[], c, by simp⟩⟩

/-- A text of lines, as it may be handed in. -/
structure TextOK (sh t : Bool) (lines : List Ln) (txt : ByteArray) : Prop where
  list : txt.data.toList = textOf lines
  head : ∃ b0 b1 tl, textOf lines = b0 :: b1 :: tl ∧ b0.toNat < 128
  size : txt.size ≤ 4096
  ok : okRun sh t ⟨[(dflt, [])], 0, 1⟩ lines

theorem loadSources_text (B db cap : Nat) (sh t : Bool) (lines : List Ln) (txt : ByteArray) (ea fa : Addr) (w0 w : World) (hT : TextOK sh t lines txt) (hcap : txt.size ≤ cap) (hk : Kept B w0 w) (g : Glob w B ea fa) (htab : t = true → SpcTab w)
    (hd : ∀ j c, txt.data.toList[j]? = some c → w.cell? ⟨db, j, none⟩ = some (.int .u8 c.toNat)) (hdl : db < w.heap.size) :
    Calls Tryz.prog 62 #[optAgg sh es es es, .iface 78 (.slice (some ⟨db, 0, none⟩) txt.size cap), .slice none 0 0] w fun e w' =>
      ∃ fb, e = .returned (.tuple #[.pointer (some ⟨fb, 0, none⟩), .nilIface]) ∧ Hid (LoadedR B sh (runP sh ⟨[(dflt, [])], 0, 1⟩ lines).v w0 fb w') := by
  have hBw := g.hB
  refine loadSources_via (some ⟨db, 0, none⟩) txt.size cap sh w (fun fb w' => LoadedR B sh (runP sh ⟨[(dflt, [])], 0, 1⟩ lines).v w0 fb w') ?_ (fun fb w1 w2 h c => h.nil c) (fun fb w1 h => by
    obtain ⟨own, σ, dsv, slv, siv, mb, hF, _⟩ := h
    exact hF.file.cells 7)
  intro fb br mb dsb W h1 h2 h3 hf hm hb hch
  obtain ⟨b0, b1, tl, htx, hb0⟩ := hT.head
  have hsz := hch.size
  have hLL : txt.size = (textOf lines).length := by rw [← hT.list, toList_length]
  refine (parse_text fb mb br B db txt.size _ sh t _ cap ea fa W lines b0 b1 tl htx hb0 hLL hT.size (emptyFile B W fb mb sh _ (by omega) (by omega) hf hm) hb
    (fun j c hj => (hch.cell (p := ⟨db, j, none⟩) hdl (by simp)).trans (hd j c (by rw [hT.list]; exact hj))) hcap (by omega) (by omega) (by omega) (g.ch hch (by simp)) (fun ht => (htab ht).nil hch) hT.ok).mono ?_
  rintro e w' ⟨rfl, own', σ, slv', siv', hF, hv, hkk⟩
  exact ⟨rfl, own', σ, _, slv', siv', mb, hF, hv, (hk.trans ⟨[], hch, by simp⟩).trans hkk⟩

set_option maxRecDepth 100000 in
set_option maxHeartbeats 1000000 in
theorem loaded_of (B : Nat) (ea fa : Addr) (opt : Int) (sh t : Bool) (hopt : (opt = 0 ∧ sh = false) ∨ (opt = 2 ∧ sh = true)) (lines : List Ln) (txt : ByteArray) (w : World) (hT : Hid (TextOK sh t lines txt)) (g : Glob w B ea fa) (htab : Hid (t = true → SpcTab w)) :
    Calls Tryz.prog 40 #[.int .i64 opt, .string txt] w fun e w' => ∃ fb, e = .returned (ptr fb) ∧ Hid (LoadedR B sh (runP sh ⟨[(dflt, [])], 0, 1⟩ lines).v w fb w') := by
  have HOPT : Hid (∀ W, Calls Tryz.prog 63 #[.int .i64 opt] W fun e w' => e = .returned (optAgg sh es es es) ∧ Hid (Ch [] W w')) := fun W => by
    rcases hopt with ⟨rfl, rfl⟩ | ⟨rfl, rfl⟩
    · exact optionsOf_0 W
    · exact optionsOf_2 W
  have h1 : 0 ≤ opt := by omega
  have h2 : opt ≤ 2 := by omega
  have h3 : ¬ ((4096 : Int) < (txt.size : Int)) := by have := hT.out.size; omega
  have HG := Lib.hid g
  clear hopt g
  go_enter Tryz.func40, Tryz.ntmps40
  go_wp2_with (first
    | (go_at_call 63; refine (HOPT.out _).mono ?_
       rintro e w1 ⟨rfl, hch1⟩
       have hcv := Lib.run_convert_string_bytes (P := Tryz.prog) w1 9 78 5 txt (u := .string) Tryz.underlying9 Tryz.underlying78 (by kernel_rfl)
       have hch2 : Ch [] w1 (Lib.bytesWorld w1 5 txt) := ⟨rfl, rfl, rfl, by rw [Lib.bytesWorld_size]; omega, fun k hk _ => Lib.bytesWorld_at_old w1 5 txt k hk⟩
       have HD : Hid (∀ j c, txt.data.toList[j]? = some c → (Lib.bytesWorld w1 5 txt).cell? ⟨w1.heap.size, j, none⟩ = some (.int .u8 c.toNat)) := fun j c hj => by
         have hl : j < txt.size := by have := (List.getElem?_eq_some_iff.1 hj).1; rwa [toList_length] at this
         rw [Lib.bytesWorld_cell w1 5 txt j hl, List.getD_eq_getElem?_getD, hj]; rfl
       have HSZ : Hid (w1.heap.size < (Lib.bytesWorld w1 5 txt).heap.size) := (show _ < _ by rw [Lib.bytesWorld_size]; omega)
       have HCAP : Hid (txt.size ≤ grownCap w1 txt.size 0 5) := grownCap_ge w1 txt.size 0 5
       obtain ⟨W, hW⟩ : ∃ W, Lib.bytesWorld w1 5 txt = W := ⟨_, rfl⟩
       rw [hW] at hcv HD HSZ hch2
       have HC : Hid (Ch [] w W) := hch1.out.trans hch2 (by simp)
       clear hch1 hch2 hW)
    | (go_at_call 62; refine (loadSources_text B w1.heap.size _ sh t lines txt ea fa w _ hT.out HCAP.out ⟨[], HC.out, by simp⟩ (HG.out.ch HC.out (by simp)) (fun ht => (htab.out ht).nil HC.out) HD.out HSZ.out).mono ?_
       rintro e w2 ⟨fb, rfl, HL⟩))
  go_ret
  exact ⟨fb, rfl, HL⟩
end Go.Proofs.YtfnncdngfggcjaaGreatDoor
