/- What is looked up in a file: NewSection at a name that is there, SectionsByName, GetSection, File.Section, GetKey. -/
import Derived.Test.YtfnncdngfggcjaaGreatDoorSec3
import Derived.Test.YtfnncdngfggcjaaGreatDoorLf2
namespace Go.Proofs.YtfnncdngfggcjaaGreatDoor
open Go.RowKit

section
variable {B : Nat} {own : Nat → Nat} {w : World} {fb : Nat} {sh : Bool} {σ : List SecA} {dsv slv siv : Value} {mb i : Nat} {s : SecA}

set_option maxRecDepth 100000 in
theorem FileOK.look (h : FileOK B own w fb sh σ dsv slv siv mb) (hi : σ[i]? = some s) :
    (Instr.lookup 99 (.map (some mb)) (.string s.name) false).run Tryz.prog w = .ok (.slice (some ⟨s.gb, 0, none⟩) 1 s.gcap) w :=
  run_look (T := 99) (K := 9) (E := 74) rfl rfl h.mp s.name (lookL_get (i := i) (by rw [List.map_map]; exact h.nodup) (by rw [List.getElem?_map, hi]; rfl))
set_option maxRecDepth 100000 in
theorem FileOK.lookNone (h : FileOK B own w fb sh σ dsv slv siv mb) {name : ByteArray} (hn : name ∉ σ.map (·.name)) :
    (Instr.lookup 99 (.map (some mb)) (.string name) false).run Tryz.prog w = .ok (.slice none 0 0) w :=
  run_look_none (T := 99) (K := 9) (E := 74) rfl rfl h.mp name zero74 (lookL_none (by rw [List.map_map]; exact hn))
theorem FileOK.grp0 (h : FileOK B own w fb sh σ dsv slv siv mb) (hi : σ[i]? = some s) : w.cell? ⟨s.gb, 0, none⟩ = some (ptr s.sb) := by
  rcases (h.secs i s hi).grp.form with ⟨h1, _⟩ | ⟨g, cap, he, _, _, hc⟩
  · cases h1
  · cases he
    exact hc 0 _ rfl
theorem zero70 (w : World) : (zeroValue 70).run Tryz.prog w = .ok (.pointer none) w := by kernel_rfl
set_option maxRecDepth 100000 in
theorem SecOK.look {fb : Nat} (h : SecOK own i w fb s) {j : Nat} {k : KeyA} (hj : s.keys[j]? = some k) :
    (Instr.lookup 93 (.map (some s.km)) (.string k.name) false).run Tryz.prog w = .ok (ptr k.kb) w :=
  run_look (T := 93) (K := 9) (E := 70) rfl rfl h.km k.name (lookL_get (i := j) (by rw [List.map_map]; exact h.nodup) (by rw [List.getElem?_map, hj]; rfl))
set_option maxRecDepth 100000 in
theorem SecOK.lookNone {fb : Nat} (h : SecOK own i w fb s) {name : ByteArray} (hn : name ∉ s.keys.map (·.name)) :
    (Instr.lookup 93 (.map (some s.km)) (.string name) false).run Tryz.prog w = .ok (.pointer none) w :=
  run_look_none (T := 93) (K := 9) (E := 70) rfl rfl h.km name zero70 (lookL_none (by rw [List.map_map]; exact hn))
end

section
variable {B : Nat} {own : Nat → Nat} {fb : Nat} {sh : Bool} {σ : List SecA} {dsv slv siv : Value} {mb i : Nat} {s : SecA}

set_option maxRecDepth 100000 in
set_option maxHeartbeats 1000000 in
theorem newSection_old (w : World) (hF : FileOK B own w fb sh σ dsv slv siv mb) (hi : σ[i]? = some s) (hn : 0 < s.name.size) (hlen : σ.length ≤ 1000) :
    Calls Tryz.prog 78 #[ptr fb, .string s.name] w fun e w' => e = .returned (.tuple #[ptr s.sb, .nilIface]) ∧ w = w' := by
  have hc := hF.file.cells
  simp only [fileCells] at hc
  have hlk := hF.look hi
  have hg0 := hF.grp0 hi
  have hmem : s.name ∈ σ.map (·.name) := List.mem_map.2 ⟨s, List.mem_of_getElem? hi, rfl⟩
  have HS := Lib.hid hF.sl
  obtain ⟨name, hname⟩ : ∃ name, s.name = name := ⟨_, rfl⟩
  rw [hname] at hlk hmem hn ⊢
  have hn0 : ((name.size : Int) == 0) = false := beq_eq_false_iff_ne.2 (by omega)
  have HM := Lib.hid hmem
  clear hF hi hname hmem
  unfold ptr at hg0 ⊢
  go_enter Tryz.func78, Tryz.ntmps78
  go_wp2_with (go_at_call 102; refine (inSlice_any name slv _ true (by simp only [true_iff]; exact HM.out) _ HS.out (by simp only [List.length_map]; omega)).mono ?_; rintro e w' ⟨rfl, rfl⟩)
  go_ret2
  exact ⟨rfl, rfl⟩

set_option maxRecDepth 100000 in
set_option maxHeartbeats 1000000 in
theorem secsByName_found (w : World) (hF : FileOK B own w fb sh σ dsv slv siv mb) (hi : σ[i]? = some s) (hn : 0 < s.name.size) :
    Calls Tryz.prog 64 #[ptr fb, .string s.name] w fun e w' => e = .returned (.tuple #[.slice (some ⟨s.gb, 0, none⟩) 1 s.gcap, .nilIface]) ∧ w = w' := by
  have hc := hF.file.cells
  simp only [fileCells] at hc
  have hlk := hF.look hi
  have hn0 : ((s.name.size : Int) == 0) = false := beq_eq_false_iff_ne.2 (by omega)
  clear hF hi
  unfold ptr
  go_enter Tryz.func64, Tryz.ntmps64
  go_wp2
  go_ret2
  exact ⟨rfl, rfl⟩

set_option maxRecDepth 100000 in
set_option maxHeartbeats 1000000 in
theorem secsByName_dflt (w : World) (hF : FileOK B own w fb sh σ dsv slv siv mb) (hi : σ[i]? = some s) (hd : s.name = ⟨#[68, 69, 70, 65, 85, 76, 84]⟩) :
    Calls Tryz.prog 64 #[ptr fb, .string es] w fun e w' => e = .returned (.tuple #[.slice (some ⟨s.gb, 0, none⟩) 1 s.gcap, .nilIface]) ∧ w = w' := by
  have hc := hF.file.cells
  simp only [fileCells] at hc
  have hlk := hF.look hi
  rw [hd] at hlk
  clear hF hi hd
  unfold ptr
  go_enter Tryz.func64, Tryz.ntmps64
  go_wp2
  go_ret2
  exact ⟨rfl, rfl⟩

set_option maxRecDepth 100000 in
set_option maxHeartbeats 1000000 in
theorem secsByName_none (w : World) (name : ByteArray) (hF : FileOK B own w fb sh σ dsv slv siv mb) (hn : name ∉ σ.map (·.name)) (h0 : 0 < name.size) :
    Calls Tryz.prog 64 #[ptr fb, .string name] w fun e w' => e = .returned (.tuple #[.slice none 0 0, .iface 138 (.pointer (some ⟨w.heap.size, 0, none⟩))]) ∧ Hid (Ch [] w w') := by
  have hc := hF.file.cells
  simp only [fileCells] at hc
  have hlk := hF.lookNone hn
  have hn0 : ((name.size : Int) == 0) = false := beq_eq_false_iff_ne.2 (by omega)
  clear hF hn
  unfold ptr
  go_enter Tryz.func64, Tryz.ntmps64
  go_wp2_with (go_at_call 67; refine (errorsNew_any _ _).mono ?_; rintro e w' ⟨rfl, rfl⟩)
  go_ret2
  exact ⟨rfl, (Ch.refl [] w).alloc _⟩

set_option maxRecDepth 100000 in
set_option maxHeartbeats 1000000 in
theorem getSection_of (w : World) (name : ByteArray) (hF : FileOK B own w fb sh σ dsv slv siv mb) (hi : σ[i]? = some s)
    (h : Calls Tryz.prog 64 #[ptr fb, .string name] w fun e w' => e = .returned (.tuple #[.slice (some ⟨s.gb, 0, none⟩) 1 s.gcap, .nilIface]) ∧ w = w') :
    Calls Tryz.prog 41 #[ptr fb, .string name] w fun e w' => e = .returned (.tuple #[ptr s.sb, .nilIface]) ∧ w = w' := by
  have hg0 := hF.grp0 hi
  have H := Lib.hid h
  clear h hF hi
  unfold ptr at *
  go_enter Tryz.func41, Tryz.ntmps41
  go_wp2_with (go_at_call 64; refine H.out.mono ?_; rintro e w' ⟨rfl, rfl⟩)
  go_ret2
  exact ⟨rfl, rfl⟩
theorem getSection_found (w : World) (hF : FileOK B own w fb sh σ dsv slv siv mb) (hi : σ[i]? = some s) (hn : 0 < s.name.size) :
    Calls Tryz.prog 41 #[ptr fb, .string s.name] w fun e w' => e = .returned (.tuple #[ptr s.sb, .nilIface]) ∧ w = w' :=
  getSection_of w s.name hF hi (secsByName_found w hF hi hn)
theorem getSection_dflt (w : World) (hF : FileOK B own w fb sh σ dsv slv siv mb) (hi : σ[i]? = some s) (hd : s.name = ⟨#[68, 69, 70, 65, 85, 76, 84]⟩) :
    Calls Tryz.prog 41 #[ptr fb, .string es] w fun e w' => e = .returned (.tuple #[ptr s.sb, .nilIface]) ∧ w = w' :=
  getSection_of w es hF hi (secsByName_dflt w hF hi hd)

set_option maxRecDepth 100000 in
set_option maxHeartbeats 1000000 in
/-- File.Section where there is such a section. -/
theorem section_of (w : World) (name : ByteArray) (h : Calls Tryz.prog 41 #[ptr fb, .string name] w fun e w' => e = .returned (.tuple #[ptr s.sb, .nilIface]) ∧ w = w') :
    Calls Tryz.prog 68 #[ptr fb, .string name] w fun e w' => e = .returned (ptr s.sb) ∧ w = w' := by
  have H := Lib.hid h
  clear h
  unfold ptr at *
  go_enter Tryz.func68, Tryz.ntmps68
  go_wp2_with (go_at_call 41; refine H.out.mono ?_; rintro e w' ⟨rfl, rfl⟩)
  go_ret
  exact ⟨rfl, rfl⟩

set_option maxRecDepth 100000 in
set_option maxHeartbeats 1000000 in
/-- A key that the section has. -/
theorem getKey_here (w : World) (hF : FileOK B own w fb sh σ dsv slv siv mb) (hi : σ[i]? = some s) {j : Nat} {k : KeyA} (hj : s.keys[j]? = some k) :
    Calls Tryz.prog 46 #[ptr s.sb, .string k.name] w fun e w' => e = .returned (.tuple #[ptr k.kb, .nilIface]) ∧ w = w' := by
  have hcf := hF.file.cells
  simp only [fileCells] at hcf
  have hs := hF.secs i s hi
  have hcs := hs.sec.cells
  simp only [secCells] at hcs
  have hlk := hs.look hj
  clear hF hi hj hs
  unfold ptr at *
  go_enter Tryz.func46, Tryz.ntmps46
  go_wp2
  go_ret2
  exact ⟨rfl, rfl⟩
end
end Go.Proofs.YtfnncdngfggcjaaGreatDoor
