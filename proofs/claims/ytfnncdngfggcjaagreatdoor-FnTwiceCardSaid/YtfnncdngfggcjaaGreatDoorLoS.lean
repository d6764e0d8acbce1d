/- Contracts for impl.Load: File.Sections, Section.Keys. Contracts for FnNumbered: Key.Name, spec.Figures at a small number. What impl.Load tells, in memory: slices of structs (KeysT, SecsT). Contracts of ValueWithShadows (at most one shadow), and of slices.Clone on texts, as a row of its own. Append of one key, or of one section, that is told; what holds within the loop over a section's keys. Contract of impl.sectionsOf. -/
import Derived.Test.YtfnncdngfggcjaaGreatDoorFi1
import Derived.Test.YtfnncdngfggcjaaGreatDoorPar1
import Derived.StillTailTactics
import Derived.Deep.OwnRows
import Derived.Test.YtfnncdngfggcjaaGreatDoorIn1
import Derived.Deep.RegionHeld3

namespace Go.Proofs.YtfnncdngfggcjaaGreatDoor
open Go.RowKit

theorem info70 : (Tryz.prog.info? 70).map (fun i => (i.zero, i.size, i.bytes)) = some (some (.pointer none), 1, 8) := by kernel_rfl
theorem made_list (n : Nat) (z : Value) : madeCells #[z] n = Array.replicate n z := by rw [madeCells_toList, List.toArray_replicate]
theorem make_ptrs (T e : TypeId) (W : World) (n : Nat) (ht : Tryz.prog.underlying T = some (.slice e)) (hinfo : (Tryz.prog.info? e).map (fun i => (i.zero, i.size, i.bytes)) = some (some (.pointer none), 1, 8)) (hn : n ≤ 1000) :
    (Instr.makeSlice T (.int .i64 n) (.int .i64 n)).run Tryz.prog W = .ok (.slice (some ⟨W.heap.size, 0, none⟩) n n) (W.alloc (.cells (Array.replicate n (Value.pointer none)) e)) := by
  have h := run_make_row' (P := Tryz.prog) T e (.pointer none) 8 ht hinfo rfl .i64 .i64 n (by omega) (by omega) W
  rw [← made_list]
  exact h

/-- A row that is being filled. -/
def filled {α : Type} (f : α → Value) (l : List α) (k : Nat) : List Value := (l.take k).map f ++ List.replicate (l.length - k) (.pointer none)
theorem filled_zero {α : Type} (f : α → Value) (l : List α) : filled f l 0 = List.replicate l.length (.pointer none) := by unfold filled; simp
theorem filled_length {α : Type} (f : α → Value) (l : List α) {k : Nat} (hk : k ≤ l.length) : (filled f l k).length = l.length := by
  unfold filled; rw [List.length_append, List.length_map, List.length_take, List.length_replicate]; omega
theorem filled_set {α : Type} (f : α → Value) {l : List α} {k : Nat} (hk : k < l.length) : (filled f l k).set k (f l[k]) = filled f l (k + 1) := by
  unfold filled
  have e : ((l.take k).map f).length = k := by rw [List.length_map, List.length_take]; omega
  rw [List.set_append_right _ _ (by omega), e, Nat.sub_self, List.take_succ_eq_append_getElem hk, List.map_append, show l.length - k = (l.length - (k + 1)) + 1 by omega, List.replicate_succ, List.set_cons_zero]
  simp
theorem filled_at {α : Type} (f : α → Value) {l : List α} {k : Nat} (hk : k < l.length) : (filled f l k)[k]? = some (.pointer none) := by
  unfold filled
  have e : ((l.take k).map f).length = k := by rw [List.length_map, List.length_take]; omega
  rw [List.getElem?_append_right (by omega), e, Nat.sub_self, show l.length - k = (l.length - (k + 1)) + 1 by omega, List.replicate_succ]
  rfl
theorem filled_all {α : Type} (f : α → Value) (l : List α) : filled f l l.length = l.map f := by unfold filled; simp

section
variable {B : Nat} {own : Nat → Nat} {fb : Nat} {sh : Bool} {σ : List SecA} {dsv slv siv : Value} {mb : Nat}

set_option maxRecDepth 100000 in
set_option maxHeartbeats 2000000 in
theorem sections_any (w : World) (hF : FileOK B own w fb sh σ dsv slv siv mb) (hpos : 0 < σ.length) (hlen : σ.length ≤ 1000) :
    Calls Tryz.prog 71 #[ptr fb] w fun e w' => ∃ g, e = .returned (.slice (some ⟨g, 0, none⟩) σ.length σ.length) ∧ Hid (Blk w' g 62 (σ.map fun x => ptr x.sb)) ∧ Hid (Ch [] w w') ∧ w.heap.size ≤ g := by
  have hmk := fun W => make_ptrs 74 62 W σ.length Tryz.underlying74 info62 hlen
  have hfc := hF.file.cells
  simp only [fileCells] at hfc
  have HF := Lib.hid hF
  have hslen : (strs (σ.map (·.name))).length = σ.length := by simp [strs]
  obtain ⟨gs, cs, rfl, hgc, hgl, hcl⟩ : ∃ g cap, slv = .slice (some ⟨g, 0, none⟩) σ.length cap ∧ σ.length ≤ cap ∧ g < w.heap.size ∧ ∀ j (h : j < σ.length), w.cell? ⟨g, j, none⟩ = some (.string σ[j].name) := by
    rcases hF.sl.form with ⟨_, h⟩ | ⟨g, cap, h1, h2, h3, h4⟩
    · exfalso
      have : σ.length = 0 := by rw [← hslen, h]; rfl
      omega
    · rw [hslen] at h1 h2
      refine ⟨g, cap, h1, h2, h3, fun j hj => h4 j _ ?_⟩
      unfold strs
      rw [List.getElem?_map, List.getElem?_map, List.getElem?_eq_getElem hj]; rfl
  obtain ⟨gi, ci, rfl, hic, hil, hci⟩ : ∃ g cap, siv = .slice (some ⟨g, 0, none⟩) σ.length cap ∧ σ.length ≤ cap ∧ g < w.heap.size ∧ ∀ j (h : j < σ.length), w.cell? ⟨g, j, none⟩ = some (.int .i64 0) := by
    rcases hF.si.form with ⟨_, h⟩ | ⟨g, cap, h1, h2, h3, h4⟩
    · exfalso
      have h5 := congrArg List.length h
      rw [List.length_map] at h5
      have : ([] : List Value).length = 0 := rfl
      omega
    · rw [List.length_map] at h1 h2
      exact ⟨g, cap, h1, h2, h3, fun j hj => h4 j _ (by rw [List.getElem?_map, List.getElem?_eq_getElem hj]; rfl)⟩
  have HCL := Lib.hid hcl
  have HCI := Lib.hid hci
  have hfA : ∀ n o, ((w.drewN n).alloc (.cells (Array.replicate σ.length (Value.pointer none)) 62)).cell? ⟨fb, o, none⟩ = (fileCells sh dsv (.slice (some ⟨gs, 0, none⟩) σ.length cs) (.slice (some ⟨gi, 0, none⟩) σ.length ci) mb)[o]? := fun n => ((hF.file.drewN n).alloc _).cells
  have hfB : ∀ o, (w.alloc (.cells (Array.replicate σ.length (Value.pointer none)) 62)).cell? ⟨fb, o, none⟩ = (fileCells sh dsv (.slice (some ⟨gs, 0, none⟩) σ.length cs) (.slice (some ⟨gi, 0, none⟩) σ.length ci) mb)[o]? := (hF.file.alloc _).cells
  simp only [fileCells] at hfA hfB
  clear hF hcl hci
  unfold ptr at *
  go_enter Tryz.func71, Tryz.ntmps71
  go_wp2
  go_loopg [17] (σ.length + 1) (fun gf s17 wx => ∃ k : Nat, k ≤ σ.length ∧ gf = σ.length + 1 - k ∧ s17 = .int .i64 k ∧ Hid (Blk wx w.heap.size 62 (filled (fun x : SecA => Value.pointer (some ⟨x.sb, 0, none⟩)) σ k)) ∧ Hid (Ch [] w wx))
  case atStart =>
    refine ⟨0, Nat.zero_le _, rfl, rfl, ?_, (Ch.refl [] w).alloc _⟩
    have := Blk.new w 62 (List.replicate σ.length (Value.pointer none))
    rw [List.toArray_replicate] at this
    rw [filled_zero]; exact this
  case round =>
    obtain ⟨k, hk, hgk, rfl, HB, HC⟩ := hrel
    clear hfc hfA hfB hmk
    by_cases hlt : k < σ.length
    · have hfx := (HF.out.nil HC.out).file.cells
      simp only [fileCells] at hfx
      have hcell := (HC.out.cell (p := ⟨gs, k, none⟩) hgl (by simp)).trans (HCL.out k hlt)
      have hidx := (HC.out.cell (p := ⟨gi, k, none⟩) hil (by simp)).trans (HCI.out k hlt)
      obtain ⟨x, hx⟩ : ∃ x, σ[k] = x := ⟨_, rfl⟩
      have hx? : σ[k]? = some x := by rw [List.getElem?_eq_getElem hlt, hx]
      have hlk := (HF.out.nil HC.out).look hx?
      have hlk2 := (HF.out.nil HC.out.drew).look hx?
      have hg0 := (HF.out.nil HC.out).grp0 hx?
      unfold ptr at hg0
      rw [hx] at hcell
      have HX := Lib.hid hx
      have hbc : wr.cell? ⟨w.heap.size, k, none⟩ = some (.pointer none) := (HB.out.cells k).trans (filled_at _ hlt)
      have hbf := HB.out.frees k
      clear hx hx?
      go_wp2
      go_still_tail 18, (by kernel_rfl)
      change wpList _ _ _ _ _ wr.drew
      go_wp2
      go_roundg (σ.length + 1 - (k + 1))
      case measure => omega
      case rel =>
        have hs := filled_set (fun x : SecA => Value.pointer (some ⟨x.sb, 0, none⟩)) hlt
        rw [HX.out] at hs
        exact ⟨k + 1, by omega, rfl, by go_num, by rw [← hs]; exact HB.out.drew.set k _, HC.out.drew.set (.inr (Nat.le_refl _)) _⟩
    · obtain rfl : k = σ.length := by omega
      rw [filled_all] at HB
      go_wp2
      go_ret
      exact ⟨_, rfl, HB, HC, Nat.le_refl _⟩

theorem secKey_any {i : Nat} {s : SecA} (w : World) (hF : FileOK B own w fb sh σ dsv slv siv mb) (hi : σ[i]? = some s) {j : Nat} {k : KeyA} (hj : s.keys[j]? = some k) :
    Calls Tryz.prog 98 #[.pointer (some ⟨s.sb, 0, none⟩), .string k.name] w fun e w' => e = .returned (.pointer (some ⟨k.kb, 0, none⟩)) ∧ w = w' := by
  have H := Lib.hid (getKey_here w hF hi hj)
  clear hF hi hj
  unfold ptr at *
  go_enter Tryz.func98, Tryz.ntmps98
  go_wp2_with (go_at_call 46; refine H.out.mono ?_; rintro e w' ⟨rfl, rfl⟩)
  go_ret
  exact ⟨rfl, rfl⟩

set_option maxRecDepth 100000 in
set_option maxHeartbeats 2000000 in
theorem keys_any {i : Nat} {s : SecA} (w : World) (hF : FileOK B own w fb sh σ dsv slv siv mb) (hi : σ[i]? = some s) (hlen : s.keys.length ≤ 1000) :
    Calls Tryz.prog 72 #[ptr s.sb] w fun e w' => ∃ g, e = .returned (.slice (some ⟨g, 0, none⟩) s.keys.length s.keys.length) ∧ Hid (Blk w' g 70 (s.keys.map fun x => ptr x.kb)) ∧ Hid (Ch [] w w') ∧ w.heap.size ≤ g := by
  have hmk := fun W => make_ptrs 105 70 W s.keys.length Tryz.underlying105 info70 hlen
  have hsec := hF.secs i s hi
  have hslen : (strs (s.keys.map (·.name))).length = s.keys.length := by simp [strs]
  obtain ⟨a, cap, hkl, hcl⟩ : ∃ a cap, s.klv = .slice a s.keys.length cap ∧ (s.keys.length ≤ cap ∧ ∀ j (h : j < s.keys.length), ∃ g, a = some ⟨g, 0, none⟩ ∧ g < w.heap.size ∧ w.cell? ⟨g, j, none⟩ = some (.string s.keys[j].name)) := by
    rcases hsec.kl.form with ⟨h1, h⟩ | ⟨g, cap, h1, h2, h3, h4⟩
    · have e : s.keys.length = 0 := by rw [← hslen, h]; rfl
      exact ⟨none, 0, by rw [h1, e], by omega, fun j hj => by omega⟩
    · rw [hslen] at h1 h2
      refine ⟨_, cap, h1, h2, fun j hj => ⟨g, rfl, h3, h4 j _ ?_⟩⟩
      unfold strs
      rw [List.getElem?_map, List.getElem?_map, List.getElem?_eq_getElem hj]; rfl
  have hcap := hcl.1
  have HCL := Lib.hid hcl.2
  have hfc := hsec.sec.cells
  have hfA : ∀ n o, ((w.drewN n).alloc (.cells (Array.replicate s.keys.length (Value.pointer none)) 70)).cell? ⟨s.sb, o, none⟩ = (secCells fb es s.name s.km s.klv s.kh)[o]? := fun n => ((hsec.sec.drewN n).alloc _).cells
  have hfB : ∀ o, (w.alloc (.cells (Array.replicate s.keys.length (Value.pointer none)) 70)).cell? ⟨s.sb, o, none⟩ = (secCells fb es s.name s.km s.klv s.kh)[o]? := (hsec.sec.alloc _).cells
  simp only [secCells] at hfA hfB hfc
  rw [hkl] at hfA hfB hfc
  have HF := Lib.hid hF
  have HS := Lib.hid hi
  have HKL := Lib.hid hkl
  clear hF hi hcl hkl hsec
  unfold ptr at *
  go_enter Tryz.func72, Tryz.ntmps72
  go_wp2
  go_loopg [16] (s.keys.length + 1) (fun gf s16 wx => ∃ k : Nat, k ≤ s.keys.length ∧ gf = s.keys.length + 1 - k ∧ s16 = .int .i64 k ∧ Hid (Blk wx w.heap.size 70 (filled (fun x : KeyA => Value.pointer (some ⟨x.kb, 0, none⟩)) s.keys k)) ∧ Hid (Ch [] w wx))
  case atStart =>
    refine ⟨0, Nat.zero_le _, rfl, rfl, ?_, (Ch.refl [] w).alloc _⟩
    have := Blk.new w 70 (List.replicate s.keys.length (Value.pointer none))
    rw [List.toArray_replicate] at this
    rw [filled_zero]; exact this
  case round =>
    obtain ⟨k, hk, hgk, rfl, HB, HC⟩ := hrel
    clear hfc hfA hfB hmk
    by_cases hlt : k < s.keys.length
    · have hfx := ((HF.out.nil HC.out).secs i s HS.out).sec.cells
      simp only [secCells] at hfx
      rw [HKL.out] at hfx
      obtain ⟨g, rfl, hgl, hgc⟩ := HCL.out k hlt
      have hcell := (HC.out.cell (p := ⟨g, k, none⟩) hgl (by simp)).trans hgc
      obtain ⟨x, hx⟩ : ∃ x, s.keys[k] = x := ⟨_, rfl⟩
      have hx? : s.keys[k]? = some x := by rw [List.getElem?_eq_getElem hlt, hx]
      have HK98 := Lib.hid (secKey_any wr (HF.out.nil HC.out) HS.out hx?)
      rw [hx] at hcell
      have HX := Lib.hid hx
      have hbc : wr.cell? ⟨w.heap.size, k, none⟩ = some (.pointer none) := (HB.out.cells k).trans (filled_at _ hlt)
      have hbf := HB.out.frees k
      clear hx hx? hgc
      go_wp2_with (go_at_call 98; refine HK98.out.mono ?_; rintro e w' ⟨rfl, rfl⟩)
      go_roundg (s.keys.length + 1 - (k + 1))
      case measure => omega
      case rel =>
        have hs := filled_set (fun x : KeyA => Value.pointer (some ⟨x.kb, 0, none⟩)) hlt
        rw [HX.out] at hs
        exact ⟨k + 1, by omega, rfl, by go_num, by rw [← hs]; exact HB.out.set k _, HC.out.set (.inr (Nat.le_refl _)) _⟩
    · obtain rfl : k = s.keys.length := by omega
      rw [filled_all] at HB
      go_wp2
      go_ret
      exact ⟨_, rfl, HB, HC, Nat.le_refl _⟩
end
end Go.Proofs.YtfnncdngfggcjaaGreatDoor

namespace Go.Proofs.YtfnncdngfggcjaaGreatDoor
open Go.RowKit

theorem keyName_cell (kb : Nat) (name : ByteArray) (w : World) (h : w.cell? ⟨kb, 2, none⟩ = some (.string name)) :
    Calls Tryz.prog 73 #[.pointer (some ⟨kb, 0, none⟩)] w fun e w' => e = .returned (.string name) ∧ w = w' := by
  go_enter Tryz.func73, Tryz.ntmps73
  go_wp2
  go_ret
  exact ⟨rfl, rfl⟩

def digB (d : Nat) : ByteArray := ⟨#[UInt8.ofNat (48 + d)]⟩
theorem rune_digit (d : Nat) (h : d < 10) (W : World) : (convert 21 9 (.int .i32 (48 + (d : Int)))).run Tryz.prog W = .ok (.string (digB d)) W := by
  have : d = 0 ∨ d = 1 ∨ d = 2 ∨ d = 3 ∨ d = 4 ∨ d = 5 ∨ d = 6 ∨ d = 7 ∨ d = 8 ∨ d = 9 := by omega
  rcases this with rfl | rfl | rfl | rfl | rfl | rfl | rfl | rfl | rfl | rfl
  all_goals (show _ = _; kernel_rfl)

theorem figures_one (d : Nat) (h : d < 10) (w : World) : Calls Tryz.prog 27 #[.int .i64 d] w fun e w' => e = .returned (.string (digB d)) ∧ w = w' := by
  have hr := rune_digit d h
  go_enter Tryz.func27, Tryz.ntmps27
  go_wp2
  go_ret
  exact ⟨rfl, rfl⟩
set_option maxRecDepth 100000 in
theorem figures_two (n : Nat) (h1 : ¬ n < 10) (h2 : n < 100) (w : World) : Calls Tryz.prog 27 #[.int .i64 n] w fun e w' => e = .returned (.string (digB (n / 10) ++ digB (n % 10))) ∧ w = w' := by
  have hr := rune_digit (n % 10) (by omega)
  have hz1 : (digB (n / 10)).size = 1 := rfl
  have hz2 : (digB (n % 10)).size = 1 := rfl
  obtain ⟨a, ha⟩ : ∃ a, digB (n / 10) = a := ⟨_, rfl⟩
  obtain ⟨b, hb⟩ : ∃ b, digB (n % 10) = b := ⟨_, rfl⟩
  have H := Lib.hid (figures_one (n / 10) (by omega))
  rw [ha] at hz1 H ⊢
  rw [hb] at hz2 hr ⊢
  clear ha hb
  rw [show ((n / 10 : Nat) : Int) = (n : Int) / 10 by omega] at H
  rw [show ((n % 10 : Nat) : Int) = (n : Int) % 10 by omega] at hr
  have hs1 : a.size ≤ 1 := by omega
  have hs2 : b.size ≤ 1 := by omega
  clear hz1 hz2
  go_enter Tryz.func27, Tryz.ntmps27
  go_wp2_with (go_at_call 27; refine (H.out _).mono ?_; rintro e w' ⟨rfl, rfl⟩)
  go_ret
  exact ⟨rfl, rfl⟩
theorem figures_small (n : Nat) (h : n < 100) (w : World) : Calls Tryz.prog 27 #[.int .i64 n] w fun e w' => e = .returned (.string ⟨(Lib.decDigits n).toArray⟩) ∧ w = w' := by
  by_cases h1 : n < 10
  · rw [Lib.decDigits_one h1]; exact figures_one n h1 w
  · have e : (⟨(Lib.decDigits n).toArray⟩ : ByteArray) = digB (n / 10) ++ digB (n % 10) := by
      rw [Lib.decDigits_two h1 h]
      apply ba_ext
      rw [ByteArray.data_append, Array.toList_append]; rfl
    rw [e]; exact figures_two n h1 h w
end Go.Proofs.YtfnncdngfggcjaaGreatDoor

namespace Go.Proofs.YtfnncdngfggcjaaGreatDoor
open Go.RowKit

theorem secName_c (sb : Nat) (name : ByteArray) (w : World) (h : w.cell? ⟨sb, 2, none⟩ = some (.string name)) :
    Calls Tryz.prog 50 #[.pointer (some ⟨sb, 0, none⟩)] w fun e w' => e = .returned (.string name) ∧ w = w' := by
  go_enter Tryz.func50, Tryz.ntmps50
  go_wp2
  go_ret
  exact ⟨rfl, rfl⟩
theorem keyValue_c (kb : Nat) (val : ByteArray) (w : World) (h : w.cell? ⟨kb, 3, none⟩ = some (.string val)) :
    Calls Tryz.prog 47 #[.pointer (some ⟨kb, 0, none⟩)] w fun e w' => e = .returned (.string val) ∧ w = w' := by
  go_enter Tryz.func47, Tryz.ntmps47
  go_wp2
  go_ret
  exact ⟨rfl, rfl⟩
theorem Row.sl {w : World} {T : TypeId} {v : Value} {xs : List Value} (h : Row w T v xs) : ∃ a cap, v = .slice a xs.length cap ∧ ∀ (j : Nat) (u : Value), xs[j]? = some u → ∃ g, a = some ⟨g, 0, none⟩ ∧ g < w.heap.size ∧ w.cell? ⟨g, j, none⟩ = some u := by
  rcases h.form with ⟨rfl, h0⟩ | ⟨g, cap, rfl, h1, h2, h3⟩
  · subst h0; exact ⟨none, 0, rfl, fun j u h => by simp at h⟩
  · exact ⟨_, cap, rfl, fun j u hu => ⟨g, rfl, h2, h3 j u hu⟩⟩

theorem info31 : (Tryz.prog.info? 31).map (fun i => (i.zero, i.size, i.bytes)) = some (some (.agg #[.string es, .string es, .string es, .slice none 0 0]), 4, 72) := by kernel_rfl
theorem info29 : (Tryz.prog.info? 29).map (fun i => (i.zero, i.size, i.bytes)) = some (some (.agg #[.string es, .string es, .slice none 0 0]), 3, 56) := by kernel_rfl

/-- The slice v owns n elements of so many cells of type T; the cells are xs. -/
def OwnN (w : World) (T : TypeId) (size : Nat) (v : Value) (n : Nat) (xs : List Value) : Prop := w.ownsRow 0 T size v n xs
section
variable {w w' : World} {T : TypeId} {size : Nat} {v : Value} {n : Nat} {xs : List Value}
theorem OwnN.nil (w : World) (T : TypeId) (size : Nat) : OwnN w T size (.slice none 0 0) 0 [] := ⟨by simp, .inl ⟨rfl, rfl⟩⟩
theorem OwnN.blk (h : OwnN w T size v n xs) {g : Nat} (hg : v.ownBlock = some g) : ∃ (cur : List Value) (cap : Nat), v = .slice (some ⟨g, 0, none⟩) n cap ∧ Blk w g T cur ∧ n ≤ cap ∧ ∀ (j : Nat) (u : Value), xs[j]? = some u → cur[j]? = some u := by
  obtain ⟨_, h | ⟨g', cap, cur, rfl, _, hh, hn, _, hs, ht⟩⟩ := h
  · rw [h.1] at hg; cases hg
  · have : g' = g := Option.some.inj hg
    subst this
    refine ⟨cur.toList, cap, rfl, ?_, hn, fun j u hu => ?_⟩
    · unfold Blk; simpa using hh
    · rw [← ht] at hu
      rw [List.getElem?_take] at hu
      split at hu
      · exact hu
      · cases hu
theorem OwnN.same (h : OwnN w T size v n xs) (hh : ∀ g, v.ownBlock = some g → w'.heap[g]? = w.heap[g]?) : OwnN w' T size v n xs := by
  obtain ⟨h1, h | ⟨g, cap, cur, rfl, hb, hg, r⟩⟩ := h
  · exact ⟨h1, .inl h⟩
  · exact ⟨h1, .inr ⟨g, cap, cur, rfl, hb, by rw [hh g rfl]; exact hg, r⟩⟩
theorem OwnN.lt (h : OwnN w T size v n xs) {g : Nat} (hg : v.ownBlock = some g) : g < w.heap.size := by
  obtain ⟨cur, cap, _, hb, _⟩ := h.blk hg
  exact hb.lt
theorem OwnN.ch (h : OwnN w T size v n xs) {S : List Nat} (k : Ch S w w') (hS : ∀ g, v.ownBlock = some g → g ∉ S) : OwnN w' T size v n xs :=
  h.same fun g hg => k.block g (h.lt hg) (hS g hg)
theorem OwnN.ne (h : OwnN w T size v n xs) {b : Nat} {T' : TypeId} {cs : List Value} (hb : Blk w b T' cs) (ht : T ≠ T') : ∀ g, v.ownBlock = some g → g ≠ b := by
  intro g hg
  obtain ⟨cur, cap, _, hb', _⟩ := h.blk hg
  exact hb'.ne hb ht
theorem OwnN.len (h : OwnN w T size v n xs) : xs.length = n * size := h.1
theorem OwnN.form (h : OwnN w T size v n xs) : ∃ (a : Option Addr) (cap : Nat), v = .slice a n cap ∧ ∀ (j : Nat) (u : Value), xs[j]? = some u → ∃ g, a = some ⟨g, 0, none⟩ ∧ g < w.heap.size ∧ w.cell? ⟨g, j, none⟩ = some u := by
  have hh := h
  obtain ⟨h1, h | ⟨g, cap, cur, rfl, hb, hg, r⟩⟩ := h
  · obtain ⟨rfl, rfl⟩ := h
    refine ⟨none, 0, rfl, fun j u hu => ?_⟩
    have : xs = [] := List.eq_nil_of_length_eq_zero (by rw [h1]; simp)
    subst this; simp at hu
  · refine ⟨_, cap, rfl, fun j u hu => ⟨g, rfl, (Array.getElem?_eq_some_iff.1 hg).1, ?_⟩⟩
    obtain ⟨cur', cap', _, hb', _, hc'⟩ := hh.blk (g := g) rfl
    exact (hb'.cells j).trans (hc' j u hu)
end

/-- A block's type, where the cells are of more than one kind. -/
theorem notIn_of {w : World} {S : List Nat} {P : TypeId → Prop} (hS : ∀ b, b ∈ S → ∀ T cs, Blk w b T cs → ¬ P T) {T : TypeId} {size : Nat} {v : Value} {n : Nat} {xs : List Value} (h : OwnN w T size v n xs) (hP : P T) :
    ∀ g, v.ownBlock = some g → g ∉ S := fun g hg hm => by
  obtain ⟨cur, cap, _, hb, _⟩ := h.blk hg
  exact hS g hm _ _ hb hP
theorem notIn_row {w : World} {S : List Nat} {P : TypeId → Prop} (hS : ∀ b, b ∈ S → ∀ T cs, Blk w b T cs → ¬ P T) {T : TypeId} {v : Value} {xs : List Value} (h : Row w T v xs) (hP : P T) :
    ∀ g, v.ownBlock = some g → g ∉ S := fun g hg hm => by
  obtain ⟨cur, cap, _, hb, _⟩ := h.blk hg
  exact hS g hm _ _ hb hP

/-! ### Keys that are told -/
def keyCut (x : KV) (sv : Value) : List Value := [.string x.1, .string x.2.1, .string es, sv]
def keyRow (l : List (KV × Value)) : List Value := l.flatMap fun p => keyCut p.1 p.2
theorem keyRow_snoc (l : List (KV × Value)) (p : KV × Value) : keyRow (l ++ [p]) = keyRow l ++ keyCut p.1 p.2 := by unfold keyRow; simp
theorem keyRow_at : ∀ {l : List (KV × Value)} {j : Nat} {p : KV × Value}, l[j]? = some p → ∀ i, i < 4 → (keyRow l)[j * 4 + i]? = (keyCut p.1 p.2)[i]?
  | [], _, _, h, _, _ => by simp at h
  | q :: l, 0, p, h, i, hi => by
    simp at h; subst h
    show (keyCut q.1 q.2 ++ keyRow l)[0 * 4 + i]? = _
    rw [List.getElem?_append_left (by show 0 * 4 + i < 4; omega)]
    congr 1; omega
  | q :: l, j + 1, p, h, i, hi => by
    simp at h
    show (keyCut q.1 q.2 ++ keyRow l)[(j + 1) * 4 + i]? = _
    rw [List.getElem?_append_right (by show 4 ≤ _; omega)]
    show (keyRow l)[(j + 1) * 4 + i - 4]? = _
    rw [show (j + 1) * 4 + i - 4 = j * 4 + i by omega]
    exact keyRow_at h i hi
/-- The values of a key that has shadows. -/
def ShT (w : World) (sh : Bool) (x : KV) (sv : Value) : Prop := match sh with
  | true => Row w 9 sv (strs (x.2.1 :: x.2.2))
  | false => sv = .slice none 0 0
theorem ShT.ch {w w' : World} {sh : Bool} {x : KV} {sv : Value} (h : ShT w sh x sv) {S : List Nat} (c : Ch S w w') (hS : ∀ b, b ∈ S → ∀ T cs, Blk w b T cs → T ≠ 9) : ShT w' sh x sv := by
  cases sh with
  | false => exact h
  | true => exact Row.ch h c (notIn_row (P := (· = 9)) (fun b hb T cs hT e => hS b hb T cs hT e) h rfl)
def KeysT (w : World) (sh : Bool) (ks : List KV) (kv : Value) : Prop := ∃ l : List (KV × Value), l.map (·.1) = ks ∧ OwnN w 31 4 kv ks.length (keyRow l) ∧ ∀ p, p ∈ l → ShT w sh p.1 p.2
theorem KeysT.nil (w : World) (sh : Bool) : KeysT w sh [] (.slice none 0 0) := ⟨[], rfl, OwnN.nil _ _ _, fun p hp => by cases hp⟩
theorem KeysT.ch {w w' : World} {sh : Bool} {ks : List KV} {kv : Value} (h : KeysT w sh ks kv) {S : List Nat} (c : Ch S w w') (hS : ∀ b, b ∈ S → ∀ T cs, Blk w b T cs → T ≠ 9 ∧ T ≠ 31) : KeysT w' sh ks kv := by
  obtain ⟨l, h1, h2, h3⟩ := h
  exact ⟨l, h1, h2.ch c (notIn_of (P := (· = 31)) (fun b hb T cs hT e => (hS b hb T cs hT).2 e) h2 rfl), fun p hp => (h3 p hp).ch c fun b hb T cs hT => (hS b hb T cs hT).1⟩

/-! ### Sections that are told -/
def secCut (x : SV) (kv : Value) : List Value := [.string x.1, .string es, kv]
def secRow (l : List (SV × Value)) : List Value := l.flatMap fun p => secCut p.1 p.2
theorem secRow_snoc (l : List (SV × Value)) (p : SV × Value) : secRow (l ++ [p]) = secRow l ++ secCut p.1 p.2 := by unfold secRow; simp
theorem secRow_at : ∀ {l : List (SV × Value)} {j : Nat} {p : SV × Value}, l[j]? = some p → ∀ i, i < 3 → (secRow l)[j * 3 + i]? = (secCut p.1 p.2)[i]?
  | [], _, _, h, _, _ => by simp at h
  | q :: l, 0, p, h, i, hi => by
    simp at h; subst h
    show (secCut q.1 q.2 ++ secRow l)[0 * 3 + i]? = _
    rw [List.getElem?_append_left (by show 0 * 3 + i < 3; omega)]
    congr 1; omega
  | q :: l, j + 1, p, h, i, hi => by
    simp at h
    show (secCut q.1 q.2 ++ secRow l)[(j + 1) * 3 + i]? = _
    rw [List.getElem?_append_right (by show 3 ≤ _; omega)]
    show (secRow l)[(j + 1) * 3 + i - 3]? = _
    rw [show (j + 1) * 3 + i - 3 = j * 3 + i by omega]
    exact secRow_at h i hi
def SecsT (w : World) (sh : Bool) (v : List SV) (ov : Value) : Prop := ∃ l : List (SV × Value), l.map (·.1) = v ∧ OwnN w 29 3 ov v.length (secRow l) ∧ ∀ p, p ∈ l → KeysT w sh p.1.2 p.2
theorem SecsT.nil (w : World) (sh : Bool) : SecsT w sh [] (.slice none 0 0) := ⟨[], rfl, OwnN.nil _ _ _, fun p hp => by cases hp⟩
theorem SecsT.ch {w w' : World} {sh : Bool} {v : List SV} {ov : Value} (h : SecsT w sh v ov) {S : List Nat} (c : Ch S w w') (hS : ∀ b, b ∈ S → ∀ T cs, Blk w b T cs → T ≠ 9 ∧ T ≠ 31 ∧ T ≠ 29) : SecsT w' sh v ov := by
  obtain ⟨l, h1, h2, h3⟩ := h
  exact ⟨l, h1, h2.ch c (notIn_of (P := (· = 29)) (fun b hb T cs hT e => (hS b hb T cs hT).2.2 e) h2 rfl), fun p hp => (h3 p hp).ch c fun b hb T cs hT => ⟨(hS b hb T cs hT).1, (hS b hb T cs hT).2.1⟩⟩
theorem SecsT.nilch {w w' : World} {sh : Bool} {v : List SV} {ov : Value} (h : SecsT w sh v ov) (c : Ch [] w w') : SecsT w' sh v ov := h.ch c (fun b hb => by cases hb)
theorem KeysT.nilch {w w' : World} {sh : Bool} {v : List KV} {ov : Value} (h : KeysT w sh v ov) (c : Ch [] w w') : KeysT w' sh v ov := h.ch c (fun b hb => by cases hb)

section
variable {P : Program} {w : World} {ops : Array Oper} {o : Oper} {a : Act} {Q : Exit → Act → World → Prop}
/-- Append of one element of more cells than one. -/
theorem wpList_append_own1 {rest : List Oper} (hgd : o.guard = none) (s x : Operand) (t : TypeId) (ho : o.op = .call { callee := .builtin .append, args := #[s, x], argTypes := #[t, t] })
    (T : TypeId) (z : Value) (size bytes : Nat) (ht : P.underlying t = some (.slice T)) (hinfo : (P.info? T).map (fun i => (i.zero, i.size, i.bytes)) = some (some z, size, bytes)) (hz1 : z.cells.size = size) (hsz : 0 < size)
    (v : Value) (n : Nat) (xs : List Value) (hs : a.eval s = v) (hrow : OwnN w T size v n xs) (g0 : Nat) (c : Nat) (us : List Value) (hx : a.eval x = .slice (some ⟨g0, 0, none⟩) 1 c) (hu : Blk w g0 T us) (hul : us.length = size) (h1 : ∀ u, u ∈ us → u.oneCell' = true)
    (hlen : n + 1 ≤ 1000000) (hby : bytes ≤ 1000)
    (h : ∀ g cap w', OwnN w' T size (.slice (some ⟨g, 0, none⟩) (n + 1) cap) (n + 1) (xs ++ us) → Ch v.ownBlock.toList w w' → (v.ownBlock = some g ∨ g = w.heap.size) → wpList P ops Q rest (a.put o.dst (.slice (some ⟨g, 0, none⟩) (n + 1) cap)) w') :
    wpList P ops Q (o :: rest) a w := by
  obtain ⟨i, hi, hz⟩ := Option.map_eq_some_iff.1 hinfo
  simp only [Prod.mk.injEq] at hz
  refine wpList_append_lies w hgd s x t ho 0 T i z size bytes ht hi hz.1 hz.2.1 hz.2.2 hz1 hsz v n xs hs hrow ⟨g0, 0, none⟩ 1 c us hx (by omega) ?_ h1 (by decide) (by unfold maxLen; omega) ?_ (Nat.zero_le _) _ rfl ?_
  · intro j y hy
    rw [Go.WideShapes.add_plain, Nat.zero_add]
    exact (hu.cells j).trans hy
  · have : (n + 1) * bytes ≤ 1000000 * 1000 := Nat.mul_le_mul hlen hby
    omega
  · intro g cap w' h2 h3 h4 _
    exact h g cap w' h2 (ch_of_grown h3) h4
end
end Go.Proofs.YtfnncdngfggcjaaGreatDoor

namespace Go.Proofs.YtfnncdngfggcjaaGreatDoor
open Go.RowKit

set_option maxHeartbeats 1000000 in
theorem clone_row (B : Nat) (v : Value) (l : List ByteArray) (w : World) (h : StrsB B w v l) (h0 : 0 < l.length) (hl : l.length ≤ 1000000) :
    Calls Tryz.prog 42 #[v] w fun e w' => ∃ v', e = .returned v' ∧ Hid (Row w' 9 v' (strs l)) ∧ Hid (Ch [] w w') := by
  obtain ⟨i, hi, hz⟩ := Option.map_eq_some_iff.1 info9
  simp only [Prod.mk.injEq] at hz
  have hmk : ∀ W, (Instr.buildSlice 26 0 #[]).run Tryz.prog W = .ok (.slice (some ⟨W.heap.size, 0, none⟩) 0 0) (W.alloc (.cells #[] 9)) := fun _ => by kernel_rfl
  have hrow : Row (w.alloc (.cells #[] 9)) 9 (.slice (some ⟨w.heap.size, 0, none⟩) 0 0) [] := Row.ofBlk (xs := []) (spare := []) (Blk.new w 9 []) rfl (by unfold maxLen; omega)
  have HR := Lib.hid hrow
  clear hrow
  rcases h with ⟨p, c, rfl, rfl⟩ | ⟨b, off, cap, rfl, _, hcap, hbB, hbw, hc⟩
  · cases h0
  · have hsl : (strs l).length = l.length := by simp [strs]
    have hne : ∀ W, (binOp .eql 26 (.slice (some ⟨b, off, none⟩) l.length cap) (.slice none 0 0)).run Tryz.prog W = .ok (.bool false) W := fun _ => by kernel_rfl
    have HC : Hid (∀ j u, (strs l)[j]? = some u → (w.alloc (.cells #[] 9)).cell? ((⟨b, off, none⟩ : Addr).add j) = some u) := fun j u hu => by
      have hj : j < l.length := by rw [← hsl]; exact (List.getElem?_eq_some_iff.1 hu).1
      rw [strs_get hj] at hu
      rw [Go.WideShapes.add_plain, World.cell?_alloc_lt _ _ _ (by exact hbw), hc j hj]
      exact hu
    clear hc
    go_enter Tryz.func42, Tryz.ntmps42
    go_wp2_with (at_builtin; refine wpList_append_own_at _ rfl (.tmp 5) (.tmp 6) 26 rfl 0 9 i _ 1 16 Tryz.underlying26 hi hz.1 hz.2.1 hz.2.2 rfl (by decide) _ 0 [] rfl HR.out ⟨b, off, none⟩ l.length cap (strs l) rfl (by rw [hsl, Nat.mul_one]) HC.out (fun u hu => by obtain ⟨s, _, rfl⟩ := List.mem_map.1 hu; rfl) (by unfold maxLen; omega) (by omega) (Nat.zero_le _) ?_)
    intro v' w' h1 h2 h3 h4
    go_wp2
    go_ret
    refine ⟨v', rfl, ?_, ((Ch.refl [] w).alloc _).grown h2 (fun k hk => by cases hk; exact .inr (Nat.le_refl _))⟩
    show Row w' 9 v' (strs l)
    unfold Row
    rw [hsl]
    simpa using h1

theorem ba_pos {v : ByteArray} (h : 0 < v.size) : v.toList ≠ [] := fun e => by
  rw [ByteArray.toList_eq] at e
  have : v.size = 0 := by rw [← toList_length, e]; rfl
  omega

set_option maxRecDepth 100000 in
set_option maxHeartbeats 1000000 in
theorem valSh_none (kb sb : Nat) (com name val : ByteArray) (auto sd : Bool) (a : Option Addr) (cap : Nat) (w : World) (hk : Blk w kb 107 (keyCells sb com name val auto sd (.slice a 0 cap))) (hv : 0 < val.size) :
    Calls Tryz.prog 74 #[ptr kb] w fun e w' => ∃ v', e = .returned v' ∧ Hid (Row w' 9 v' (strs [val])) ∧ Hid (Ch [] w w') := by
  have hc := hk.cells
  simp only [keyCells] at hc
  have hne := ba_pos hv
  have hne2 : (val.toList == []) = false := beq_eq_false_iff_ne.2 hne
  have hne3 : val.toList.isEmpty = false := by simpa using hne
  unfold ptr
  clear hk
  go_enter Tryz.func74, Tryz.ntmps74
  go_wp2
  go_ret
  exact ⟨_, rfl, Row.ofBlk (xs := [.string val]) (spare := []) (Blk.new w 9 [.string val]) rfl (by decide), (Ch.refl [] w).alloc _⟩

set_option maxRecDepth 100000 in
set_option maxHeartbeats 1000000 in
theorem valSh_one (kb sb xb g cap : Nat) (com name val val2 : ByteArray) (auto sd : Bool) (shv2 : Value) (w : World) (hk : Blk w kb 107 (keyCells sb com name val auto sd (.slice (some ⟨g, 0, none⟩) 1 cap)))
    (hg : w.cell? ⟨g, 0, none⟩ = some (.pointer (some ⟨xb, 0, none⟩))) (hx : Blk w xb 107 (keyCells sb com name val2 false true shv2)) (hv : 0 < val.size) (hv2 : 0 < val2.size) :
    Calls Tryz.prog 74 #[ptr kb] w fun e w' => ∃ v', e = .returned v' ∧ Hid (Row w' 9 v' (strs [val, val2])) ∧ Hid (Ch [] w w') := by
  have hc := hk.cells
  have hcx := hx.cells
  simp only [keyCells] at hc hcx
  have hne := ba_pos hv
  have hne2 : (val.toList == []) = false := beq_eq_false_iff_ne.2 hne
  have hne3 : val.toList.isEmpty = false := by simpa using hne
  have hme := ba_pos hv2
  have hme2 : (val2.toList == []) = false := beq_eq_false_iff_ne.2 hme
  have hme3 : val2.toList.isEmpty = false := by simpa using hme
  have hmk : ∀ W, (Instr.makeSlice 26 (.int .i64 0) (.int .i64 2)).run Tryz.prog W = .ok (.slice (some ⟨W.heap.size, 0, none⟩) 0 2) (W.alloc (.cells #[.string es, .string es] 9)) := fun _ => by kernel_rfl
  have HK := Lib.hid hk
  have HX := Lib.hid hx
  have HG := Lib.hid hg
  have hgl : g < w.heap.size := block_lt_of_cell hg
  have hkl := hk.lt
  have hxl := hx.lt
  have HR0 := Lib.hid (Row.ofBlk (xs := []) (spare := [.string es, .string es]) (Blk.new w 9 [.string es, .string es]) rfl (by decide))
  clear hk hx
  unfold ptr
  go_enter Tryz.func74, Tryz.ntmps74
  go_wp2_with (at_builtin; refine wpList_append_row rfl (.tmp 35) (.tmp 40) 26 rfl 9 _ 16 Tryz.underlying26 info9 rfl _ _ rfl (HR0.out.alloc _) ⟨w.heap.size + 1, 0, none⟩ 1 (.string val) rfl (by simp) rfl (by simp) (by omega) ?_)
  intro g1 cap1 w1 h1 h2 h3 h4
  have hch1 : Ch [] w w1 := Ch.trans (((Ch.refl [] w).alloc _).alloc _) h2 (fun x hx => .inr (by simp [Value.ownBlock] at hx; omega))
  have HR1 := Lib.hid h1
  have HC1 := Lib.hid hch1
  clear h1 h2 h4 hc hcx hg
  have hc := (HK.out.ch HC1.out (by simp)).cells
  have hcx := (HX.out.ch HC1.out (by simp)).cells
  have hg := (HC1.out.cell (p := ⟨g, 0, none⟩) hgl (by simp)).trans HG.out
  simp only [keyCells] at hc hcx
  have hgg : w.heap.size ≤ g1 := by
    rcases h3 with h | h
    · have := Option.some.inj h
      exact Nat.le_of_eq this
    · omega
  have HG1 := Lib.hid hgg
  clear h3 hgg
  go_wp2
  refine wp_loop_rounds 2 ?_
  rw [rounds_succ]
  go_wp2_with (at_builtin; refine wpList_append_row rfl (.tmp 56) (.tmp 61) 26 rfl 9 _ 16 Tryz.underlying26 info9 rfl _ _ rfl (HR1.out.alloc _) ⟨w1.heap.size, 0, none⟩ 1 (.string val2) rfl (by simp) rfl (by simp) (by omega) ?_)
  intro g2 cap2 w2 h1 h2 h3 h4
  have hch2 : Ch [] w w2 := Ch.trans (HC1.out.alloc _) h2 (fun x hx => .inr (by have := HG1.out; simp [Value.ownBlock] at hx; omega))
  have HR2 := Lib.hid h1
  have HC2 := Lib.hid hch2
  clear h1 h2 h3 h4 hc hcx hg
  go_wp2
  rw [rounds_succ]
  go_wp2
  go_ret
  exact ⟨_, rfl, HR2.out, HC2.out⟩

theorem valSh_any (sb : Nat) (k : KeyA) (w : World) (hk : KeyOK w sb k) (hv : 0 < k.val.size) (hs : ∀ x, x ∈ k.shs → 0 < x.2.size) (hl : k.shs.length ≤ 1) :
    Calls Tryz.prog 74 #[ptr k.kb] w fun e w' => ∃ v', e = .returned v' ∧ Hid (Row w' 9 v' (strs (k.view.2.1 :: k.view.2.2))) ∧ Hid (Ch [] w w') := by
  obtain ⟨a, cap, hsv, hsc⟩ := hk.shr.sl
  have h1 := hk.key
  have h2 := hk.shk
  rw [List.length_map] at hsv
  rw [hsv] at h1
  unfold KeyA.view
  cases hsh : k.shs with
  | nil =>
    rw [hsh] at h1
    exact valSh_none k.kb sb es k.name k.val k.auto false a cap w h1 hv
  | cons x r =>
    have hr : r = [] := by
      rw [hsh] at hl
      cases r with
      | nil => rfl
      | cons y r => simp at hl
    subst hr
    obtain ⟨g, rfl, hgl, hgc⟩ := hsc 0 (ptr x.1) (by rw [hsh]; rfl)
    rw [hsh] at h1
    exact valSh_one k.kb sb x.1 g cap es k.name k.val x.2 k.auto false (.slice none 0 0) w h1 hgc (h2 x (by rw [hsh]; simp)) hv (hs x (by rw [hsh]; simp))
end Go.Proofs.YtfnncdngfggcjaaGreatDoor

namespace Go.Proofs.YtfnncdngfggcjaaGreatDoor
open Go.RowKit

theorem Blk.type {w : World} {b : Nat} {T T' : TypeId} {cs cs' : List Value} (h : Blk w b T cs) (h' : Blk w b T' cs') : T = T' := by
  by_cases e : T = T'
  · exact e
  · exact absurd rfl (h.ne h' e)
theorem OwnN.types {w : World} {T : TypeId} {size : Nat} {v : Value} {n : Nat} {xs : List Value} (h : OwnN w T size v n xs) : ∀ b, b ∈ v.ownBlock.toList → ∀ T' cs, Blk w b T' cs → T' = T := fun b hb T' cs hT => by
  obtain ⟨cur, cap, _, hb', _⟩ := h.blk (g := b) (by simpa using hb)
  exact hT.type hb'

section
variable {P : Program} {w : World} {ops : Array Oper} {o : Oper} {a : Act} {Q : Exit → Act → World → Prop}
theorem keyCut_one (x : KV) (sv : Value) (h : sv.oneCell' = true) : ∀ u, u ∈ keyCut x sv → u.oneCell' = true := fun u hu => by
  unfold keyCut at hu
  simp at hu
  rcases hu with rfl | rfl | rfl | rfl
  · rfl
  · rfl
  · rfl
  · exact h
theorem secCut_one (x : SV) (kv : Value) (h : kv.oneCell' = true) : ∀ u, u ∈ secCut x kv → u.oneCell' = true := fun u hu => by
  unfold secCut at hu
  simp at hu
  rcases hu with rfl | rfl | rfl
  · rfl
  · rfl
  · exact h
theorem ShT.one {w : World} {sh : Bool} {x : KV} {sv : Value} (h : ShT w sh x sv) : sv.oneCell' = true := by
  cases sh with
  | false => have h' : sv = .slice none 0 0 := h
             rw [h']; rfl
  | true => obtain ⟨a, cap, rfl, _⟩ := Row.sl h; rfl
theorem KeysT.one {w : World} {sh : Bool} {ks : List KV} {kv : Value} (h : KeysT w sh ks kv) : kv.oneCell' = true := by
  obtain ⟨l, _, h2, _⟩ := h
  obtain ⟨a, cap, rfl, _⟩ := h2.form
  rfl

theorem wpList_append_key {rest : List Oper} (hgd : o.guard = none) (s x : Operand) (ho : o.op = .call { callee := .builtin .append, args := #[s, x], argTypes := #[27, 27] })
    (sh : Bool) (n : Nat) (ks : List KV) (hn : ks.length = n) (kv : Value) (hs : a.eval s = kv) (hk : KeysT w sh ks kv) (y : KV) (sv : Value) (hy : ShT w sh y sv) (g0 c : Nat) (hx : a.eval x = .slice (some ⟨g0, 0, none⟩) 1 c) (hu : Blk w g0 31 (keyCut y sv)) (hlen : n + 1 ≤ 1000000)
    (ht : P.underlying 27 = some (.slice 31)) (hinfo : (P.info? 31).map (fun i => (i.zero, i.size, i.bytes)) = some (some (.agg #[.string es, .string es, .string es, .slice none 0 0]), 4, 72))
    (h : ∀ g cap w', KeysT w' sh (ks ++ [y]) (.slice (some ⟨g, 0, none⟩) (n + 1) cap) → Ch kv.ownBlock.toList w w' → (kv.ownBlock = some g ∨ g = w.heap.size) → wpList P ops Q rest (a.put o.dst (.slice (some ⟨g, 0, none⟩) (n + 1) cap)) w') :
    wpList P ops Q (o :: rest) a w := by
  subst hn
  obtain ⟨l, h1, h2, h3⟩ := hk
  refine wpList_append_own1 hgd s x 27 ho 31 _ 4 72 ht hinfo rfl (by decide) kv ks.length (keyRow l) hs h2 g0 c (keyCut y sv) hx hu rfl (keyCut_one _ _ hy.one) hlen (by decide) ?_
  intro g cap w' h4 h5 h6
  have hT := h2.types
  refine h g cap w' ⟨l ++ [(y, sv)], by rw [List.map_append, h1]; rfl, ?_, fun p hp => ?_⟩ h5 h6
  · rw [keyRow_snoc, List.length_append]; exact h4
  · have hn : ∀ b, b ∈ kv.ownBlock.toList → ∀ T cs, Blk w b T cs → T ≠ 9 := fun b hb T cs hb' => by rw [hT b hb T cs hb']; decide
    rcases List.mem_append.1 hp with hp | hp
    · exact (h3 p hp).ch h5 hn
    · rw [List.mem_singleton] at hp
      subst hp
      exact hy.ch h5 hn

theorem wpList_append_sec {rest : List Oper} (hgd : o.guard = none) (s x : Operand) (ho : o.op = .call { callee := .builtin .append, args := #[s, x], argTypes := #[22, 22] })
    (sh : Bool) (n : Nat) (v : List SV) (hn : v.length = n) (ov : Value) (hs : a.eval s = ov) (hk : SecsT w sh v ov) (y : SV) (kv : Value) (hy : KeysT w sh y.2 kv) (g0 c : Nat) (hx : a.eval x = .slice (some ⟨g0, 0, none⟩) 1 c) (hu : Blk w g0 29 (secCut y kv)) (hlen : n + 1 ≤ 1000000)
    (ht : P.underlying 22 = some (.slice 29)) (hinfo : (P.info? 29).map (fun i => (i.zero, i.size, i.bytes)) = some (some (.agg #[.string es, .string es, .slice none 0 0]), 3, 56))
    (h : ∀ g cap w', SecsT w' sh (v ++ [y]) (.slice (some ⟨g, 0, none⟩) (n + 1) cap) → Ch ov.ownBlock.toList w w' → (ov.ownBlock = some g ∨ g = w.heap.size) → wpList P ops Q rest (a.put o.dst (.slice (some ⟨g, 0, none⟩) (n + 1) cap)) w') :
    wpList P ops Q (o :: rest) a w := by
  subst hn
  obtain ⟨l, h1, h2, h3⟩ := hk
  refine wpList_append_own1 hgd s x 22 ho 29 _ 3 56 ht hinfo rfl (by decide) ov v.length (secRow l) hs h2 g0 c (secCut y kv) hx hu rfl (secCut_one _ _ hy.one) hlen (by decide) ?_
  intro g cap w' h4 h5 h6
  have hT := h2.types
  refine h g cap w' ⟨l ++ [(y, kv)], by rw [List.map_append, h1]; rfl, ?_, fun p hp => ?_⟩ h5 h6
  · rw [secRow_snoc, List.length_append]; exact h4
  · have hn : ∀ b, b ∈ ov.ownBlock.toList → ∀ T cs, Blk w b T cs → T ≠ 9 ∧ T ≠ 31 := fun b hb T cs hb' => by rw [hT b hb T cs hb']; decide
    rcases List.mem_append.1 hp with hp | hp
    · exact (h3 p hp).ch h5 hn
    · rw [List.mem_singleton] at hp
      subst hp
      exact hy.ch h5 hn
end

/-- Within the loop over a section's keys: the struct x, in block xb. -/
structure InAt (sh : Bool) (xb : Nat) (nm : ByteArray) (ks : List KV) (w2 wx : World) (kv : Value) : Prop where
  x : Blk wx xb 29 [.string nm, .string es, kv]
  keys : KeysT wx sh ks kv
  ch : Ch [xb] w2 wx
  own : ∀ g, kv.ownBlock = some g → w2.heap.size ≤ g

theorem InAt.own_ne {sh : Bool} {xb : Nat} {nm : ByteArray} {ks : List KV} {w2 wx : World} {kv : Value} (h : InAt sh xb nm ks w2 wx kv) : xb ∉ kv.ownBlock.toList := fun hm => by
  obtain ⟨l, _, h2, _⟩ := h.keys
  exact h2.ne h.x (by decide) xb (by simpa using hm) rfl

/-- The key is appended, the slice laid back into the struct. -/
theorem InAt.more {sh : Bool} {xb : Nat} {nm : ByteArray} {ks ks' : List KV} {w2 wx W1 W2 : World} {kv kv' : Value} (h : InAt sh xb nm ks w2 wx kv) (h1 : Ch [] wx W1) {g : Nat} (hkv : kv'.ownBlock = some g)
    (h2 : KeysT W2 sh ks' kv') (h3 : Ch kv.ownBlock.toList W1 W2) (h4 : kv.ownBlock = some g ∨ g = W1.heap.size) :
    InAt sh xb nm ks' w2 (W2.setCell ⟨xb, 2, none⟩ kv') kv' := by
  have hx1 := (h.x.ch h1 (by simp)).ch h3 h.own_ne
  have hc1 : Ch [xb] w2 W2 := (h.ch.trans h1 (by simp)).trans h3 (fun x hx => .inr (h.own x (by simpa using hx)))
  have hg : w2.heap.size ≤ g := by
    rcases h4 with h4 | h4
    · exact h.own g h4
    · have e1 := h.ch.size
      have e2 := h1.size
      omega
  refine ⟨hx1.set 2 _, ?_, hc1.set (.inl (by simp)) _, fun g' hg' => by rw [hkv] at hg'; cases hg'; exact hg⟩
  refine h2.ch ((Ch.refl [xb] W2).set (.inl (by simp)) _) (fun b hb T cs hT => ?_)
  rw [List.mem_singleton] at hb
  subst hb
  rw [hT.type hx1]
  decide

/-- What every key must be for ValueWithShadows to tell its values. -/
def ShOK (v : List SV) : Prop := ∀ s, s ∈ v → ∀ k, k ∈ s.2 → 0 < k.2.1.size ∧ (∀ x, x ∈ k.2.2 → 0 < x.size) ∧ k.2.2.length ≤ 1
theorem take_view {σ : List SecA} {k : Nat} {s : SecA} (h : σ[k]? = some s) : (viewOf σ).take (k + 1) = (viewOf σ).take k ++ [s.view] := by
  obtain ⟨hk, e⟩ := List.getElem?_eq_some_iff.1 h
  rw [List.take_succ_eq_append_getElem (by unfold viewOf; rw [List.length_map]; exact hk)]
  unfold viewOf
  rw [List.getElem_map, e]
theorem take_keys {s : SecA} {j : Nat} {x : KeyA} (h : s.keys[j]? = some x) : s.view.2.take (j + 1) = s.view.2.take j ++ [x.view] := by
  obtain ⟨hk, e⟩ := List.getElem?_eq_some_iff.1 h
  unfold SecA.view
  rw [List.take_succ_eq_append_getElem (by rw [List.length_map]; exact hk), List.getElem_map, e]
theorem view_len (s : SecA) : s.view.2.length = s.keys.length := by unfold SecA.view; rw [List.length_map]
theorem viewOf_len (σ : List SecA) : (viewOf σ).length = σ.length := by unfold viewOf; rw [List.length_map]
end Go.Proofs.YtfnncdngfggcjaaGreatDoor

namespace Go.Proofs.YtfnncdngfggcjaaGreatDoor
open Go.RowKit

section
variable {B : Nat} {own : Nat → Nat} {fb : Nat} {sh0 : Bool} {σ : List SecA} {dsv slv siv : Value} {mb : Nat}

/-- ValueWithShadows and its clone, at a key of the file. -/
theorem valSh_key (w : World) (hF : FileOK B own w fb sh0 σ dsv slv siv mb) (hok : ShOK (viewOf σ)) {i : Nat} {s : SecA} (hi : σ[i]? = some s) {j : Nat} {x : KeyA} (hj : s.keys[j]? = some x) :
    Calls Tryz.prog 74 #[ptr x.kb] w fun e w' => ∃ v', e = .returned v' ∧ Hid (Row w' 9 v' (strs (x.view.2.1 :: x.view.2.2))) ∧ Hid (Ch [] w w') := by
  have h1 := hok s.view (by unfold viewOf; exact List.mem_map_of_mem (List.mem_of_getElem? hi)) x.view (by unfold SecA.view; exact List.mem_map_of_mem (List.mem_of_getElem? hj))
  refine valSh_any s.sb x w ((hF.secs i s hi).keys x (List.mem_of_getElem? hj)) h1.1 (fun y hy => h1.2.1 y.2 (by unfold KeyA.view; exact List.mem_map_of_mem hy)) ?_
  have := h1.2.2
  unfold KeyA.view at this
  rwa [List.length_map] at this

theorem shOK_len (hok : ShOK (viewOf σ)) {i : Nat} {s : SecA} (hi : σ[i]? = some s) {j : Nat} {x : KeyA} (hj : s.keys[j]? = some x) : (x.view.2.1 :: x.view.2.2).length ≤ 1000000 := by
  have h1 := (hok s.view (by unfold viewOf; exact List.mem_map_of_mem (List.mem_of_getElem? hi)) x.view (by unfold SecA.view; exact List.mem_map_of_mem (List.mem_of_getElem? hj))).2.2
  rw [List.length_cons]; omega

set_option maxRecDepth 100000 in
set_option maxHeartbeats 16000000 in
theorem sectionsOf_any (sh : Bool) (w : World) (hF : FileOK B own w fb sh0 σ dsv slv siv mb) (hpos : 0 < σ.length) (hlen : σ.length ≤ 1000) (hkl : Hid (∀ (i : Nat) (s : SecA), σ[i]? = some s → s.keys.length ≤ 1000)) (hok : Hid (sh = true → ShOK (viewOf σ))) :
    Calls Tryz.prog 53 #[ptr fb, .bool sh] w fun e w' => ∃ ov, e = .returned ov ∧ Hid (SecsT w' sh (viewOf σ) ov) ∧ Hid (Ch [] w w') := by
  have H71 := Lib.hid (sections_any w hF hpos hlen)
  have HF := Lib.hid hF
  clear hF
  unfold ptr at H71 ⊢
  go_enter Tryz.func53, Tryz.ntmps53
  go_wp2_with (go_at_call 71; refine H71.out.mono ?_; rintro e w1 ⟨gp, rfl, HP, HC1, HG1⟩)
  go_loopg [5, 15] (σ.length + 1) (fun gf s5 s15 wx => ∃ (k : Nat) (a5 : Option Addr) (c5 : Nat), k ≤ σ.length ∧ gf = σ.length + 1 - k ∧ s15 = .int .i64 k ∧ s5 = .slice a5 k c5 ∧ Hid (SecsT wx sh ((viewOf σ).take k) (.slice a5 k c5)) ∧ Hid (Ch [] w1 wx) ∧ Hid (∀ g, (Value.slice a5 k c5).ownBlock = some g → w1.heap.size ≤ g))
  case atStart => exact ⟨0, none, 0, Nat.zero_le _, rfl, rfl, rfl, SecsT.nil _ _, Ch.refl _ _, fun g hg => by cases hg⟩
  case round =>
    obtain ⟨k, a5, c5, hk, hgk, rfl, rfl, HT, HC, HO⟩ := hrel
    by_cases hlt : k < σ.length
    · rename World => wo
      obtain ⟨s, hs⟩ : ∃ s, σ[k] = s := ⟨_, rfl⟩
      have hs? : σ[k]? = some s := by rw [List.getElem?_eq_getElem hlt, hs]
      have HCW : Hid (Ch [] w wo) := HC1.out.trans HC.out (by simp)
      have HFr := Lib.hid (HF.out.nil HCW.out)
      obtain ⟨wo, hwo⟩ : ∃ x, x = wo := ⟨_, rfl⟩
      subst hwo
      have HS := Lib.hid hs?
      have HSB := Lib.hid (HFr.out.secs k s hs?).sec
      have HPr := Lib.hid (HP.out.ch HC.out (by simp))
      have hcell : wo.cell? ⟨gp, k, none⟩ = some (.pointer (some ⟨s.sb, 0, none⟩)) := (HPr.out.cells k).trans (by rw [List.getElem?_map, hs?]; rfl)
      clear hs hs?
      have hKL := hkl.out k s HS.out
      have H50 : Hid (∀ W, Ch [] wo W → Calls Tryz.prog 50 #[.pointer (some ⟨s.sb, 0, none⟩)] W fun e w' => e = .returned (.string s.name) ∧ W = w') := fun W hW => secName_c s.sb s.name W ((HSB.out.ch hW (by simp)).cells 2)
      have hd0 : Ch [] wo wo.drew := (Ch.refl [] wo).drew
      have hd1 : Ch [] wo (wo.drew.alloc (.cells #[.string es, .string es, .slice none 0 0] 29)) := hd0.alloc _
      have HD0 := Lib.hid hd0
      have HD1 := Lib.hid hd1
      clear hd0 hd1
      go_wp2
      go_region_held3 (fun w' => ∀ o, w'.cell? ⟨s.sb, o, none⟩ = [Value.pointer (some ⟨fb, 0, none⟩), .string es, .string s.name, .map (some s.km), s.klv, .map (some s.kh), .bool false, .string es][o]?)
        (first
          | exact HSB.out.drew.cells
          | exact (HSB.out.drew.alloc _).cells
          | exact (HSB.out.ch HD1.out (by simp)).cells)
        ((first
          | (go_at_call 50; refine (H50.out _ HD0.out).mono ?_; rintro e w' ⟨rfl, rfl⟩)
          | (go_at_call 50; refine (H50.out _ HD1.out).mono ?_; rintro e w' ⟨rfl, rfl⟩)))
      all_goals
        apply ‹∀ (a : Act) (w : World), Code.wp _ _ _ a w → _›
        refine wp_gen (fun V => Hid (Blk V wo.heap.size 29 [.string s.name, .string es, .slice none 0 0]) ∧ Hid (Ch [] wo V)) ⟨Blk.new wo 29 [.string s.name, .string es, .slice none 0 0], ((Ch.refl [] wo).alloc _).drew⟩ ?_
        rintro V ⟨HX, HCV⟩
        have HFV := Lib.hid (HFr.out.nil HCV.out)
        have H72 := Lib.hid (keys_any V HFV.out HS.out hKL)
        unfold ptr at H72
        go_wp2_with (go_at_call 72; refine H72.out.mono ?_
                     rintro e w2 ⟨gq, rfl, HP2, HC2, HG2⟩
                     have HX2 := Lib.hid (HX.out.ch HC2.out (by simp)))
        clear H50 HD0 HD1 H72
        go_loopg [29] (s.keys.length + 1) (fun gf s29 wx => ∃ (j : Nat) (a : Option Addr) (c : Nat), j ≤ s.keys.length ∧ gf = s.keys.length + 1 - j ∧ s29 = .int .i64 j ∧ Hid (InAt sh wo.heap.size s.name (s.view.2.take j) w2 wx (.slice a j c)))
        case atStart => exact ⟨0, none, 0, Nat.zero_le _, rfl, rfl, { x := HX2.out, keys := KeysT.nil _ _, ch := Ch.refl _ _, own := fun g hg => by cases hg }⟩
        case round =>
          obtain ⟨j, a, c, hj, hgj, rfl, HI⟩ := hrel
          by_cases hlt2 : j < s.keys.length
          · obtain ⟨x, hx⟩ : ∃ x, s.keys[j] = x := ⟨_, rfl⟩
            have hx? : s.keys[j]? = some x := by rw [List.getElem?_eq_getElem hlt2, hx]
            have HXK := Lib.hid hx?
            have HAL : Hid (Alien w2 [wo.heap.size]) := fun b hb => by rw [List.mem_singleton] at hb; subst hb; exact ⟨_, _, HX2.out, by decide⟩
            have HFI := Lib.hid ((HFV.out.nil HC2.out).alien HI.out.ch HAL.out)
            have HKB := Lib.hid ((HFI.out.secs k s HS.out).keys x (List.mem_of_getElem? hx?)).key
            have HPI := Lib.hid (HP2.out.ch HI.out.ch (by simpa using HP2.out.ne HX2.out (by decide)))
            have hcell2 : wr.cell? ⟨gq, j, none⟩ = some (.pointer (some ⟨x.kb, 0, none⟩)) := (HPI.out.cells j).trans (by rw [List.getElem?_map, hx?]; rfl)
            have H73 : Hid (∀ W, Ch [] wr W → Calls Tryz.prog 73 #[.pointer (some ⟨x.kb, 0, none⟩)] W fun e w' => e = .returned (.string x.name) ∧ W = w') := fun W hW => keyName_cell x.kb x.name W ((HKB.out.ch hW (by simp)).cells 2)
            have H47 : Hid (∀ W, Ch [] wr W → Calls Tryz.prog 47 #[.pointer (some ⟨x.kb, 0, none⟩)] W fun e w' => e = .returned (.string x.val) ∧ W = w') := fun W hW => keyValue_c x.kb x.val W ((HKB.out.ch hW (by simp)).cells 3)
            have hd0 : Ch [] wr wr.drew := (Ch.refl [] wr).drew
            have hd1 : Ch [] wr (wr.drew.alloc (.cells #[.string es, .string es, .string es, .slice none 0 0] 31)) := hd0.alloc _
            have HD0 := Lib.hid hd0
            have HD1 := Lib.hid hd1
            clear hd0 hd1 hx hx?
            go_wp2
            go_region_held3 (fun w' => ∀ o, w'.cell? ⟨x.kb, o, none⟩ = [Value.pointer (some ⟨s.sb, 0, none⟩), .string es, .string x.name, .string x.val, .bool x.auto, .bool false, .bool false, x.shv, .slice none 0 0][o]?)
              (first
                | exact HKB.out.drew.cells
                | exact (HKB.out.drew.alloc _).cells
                | exact (HKB.out.ch HD1.out (by simp)).cells)
              ((first
                | (go_at_call 73; refine (H73.out _ HD0.out).mono ?_; rintro e w' ⟨rfl, rfl⟩)
                | (go_at_call 73; refine (H73.out _ HD1.out).mono ?_; rintro e w' ⟨rfl, rfl⟩)
                | (go_at_call 47; refine (H47.out _ HD0.out).mono ?_; rintro e w' ⟨rfl, rfl⟩)
                | (go_at_call 47; refine (H47.out _ HD1.out).mono ?_; rintro e w' ⟨rfl, rfl⟩)))
            all_goals
              apply ‹∀ (a : Act) (w : World), Code.wp _ _ _ a w → _›
              refine wp_gen (fun V => Hid (Blk V wr.heap.size 31 [.string x.name, .string x.val, .string es, .slice none 0 0]) ∧ Hid (Ch [] wr V)) ⟨Blk.new wr 31 [.string x.name, .string x.val, .string es, .slice none 0 0], ((Ch.refl [] wr).alloc _).drew⟩ ?_
              rintro V2 ⟨HY, HCY⟩
              clear hcell2 H73 H47 HD0 HD1
              have HIV := Lib.hid (HI.out.x.ch HCY.out (by simp))
              have hci := HIV.out.cells
              have hkl2 : (s.view.2.take j).length = j := by rw [List.length_take, view_len]; omega
              have HKL2 := Lib.hid hkl2
              have HTK := Lib.hid (take_keys HXK.out)
              have hlx := HX2.out.lt
              have hle := HI.out.ch.size
              have hne1 : ¬ wo.heap.size = wr.heap.size := by omega
              have hfi := HIV.out.frees
              clear hkl2
              cases sh
              · have hcy := HY.out.cells
                go_wp2_with ((at_builtin; go_loud (refine wpList_append_key rfl (.tmp 48) (.tmp 50) rfl false j _ HKL2.out _ rfl ((HI.out.keys.nilch HCY.out).nilch ((Ch.refl [] V2).alloc _)) x.view (.slice none 0 0) rfl V2.heap.size 1 rfl (Blk.new V2 31 [.string x.name, .string x.val, .string es, .slice none 0 0]) (by omega) Tryz.underlying27 info31 ?_)))
                intro g cap W h2 h3 h4
                have HW2 := Lib.hid ((HIV.out.alloc _).ch h3 HI.out.own_ne)
                have hcw := HW2.out.cells
                have hfw := HW2.out.frees
                have HIN : Hid (InAt false wo.heap.size s.name (s.view.2.take (j + 1)) w2 (W.setCell ⟨wo.heap.size, 2, none⟩ (.slice (some ⟨g, 0, none⟩) (j + 1) cap)) (.slice (some ⟨g, 0, none⟩) (j + 1) cap)) := HI.out.more (HCY.out.alloc _) rfl (by rw [HTK.out]; exact h2) h3 (by simpa using h4)
                clear h2 h3 h4 hci hcy hfi
                go_wp2
                go_roundg (s.keys.length + 1 - (j + 1))
                case measure => omega
                case rel => exact ⟨j + 1, _, _, by omega, rfl, by go_num, HIN⟩
              · have HFY := Lib.hid (HFI.out.nil HCY.out)
                have H74 := Lib.hid (valSh_key V2 HFY.out (hok.out rfl) HS.out HXK.out)
                have HLEN : Hid ((x.view.2.1 :: x.view.2.2).length ≤ 1000000) := shOK_len (hok.out rfl) HS.out HXK.out
                unfold ptr at H74
                have hne2 : ¬ wr.heap.size = wo.heap.size := by omega
                go_wp2_with (first
                  | (go_at_call 74; refine H74.out.mono ?_; rintro e w3 ⟨v3, rfl, HR3, HC3⟩)
                  | (go_at_call 42; refine (clone_row _ v3 (x.view.2.1 :: x.view.2.2) _ (StrsB.ofRow HR3.out) (by simp) HLEN.out).mono ?_
                     rintro e w4 ⟨v4, rfl, HR4, HC4⟩
                     obtain ⟨a4, c4, hv4, _⟩ := HR4.out.sl
                     obtain ⟨n4, hn4⟩ : ∃ n, (strs (x.view.2.1 :: x.view.2.2)).length = n := ⟨_, rfl⟩
                     rw [hn4] at hv4
                     subst hv4
                     have HC24 : Hid (Ch [] wr w4) := (HCY.out.trans HC3.out (by simp)).trans HC4.out (by simp)
                     have HY4 := Lib.hid ((HY.out.ch HC3.out (by simp)).ch HC4.out (by simp))
                     have HX4 := Lib.hid ((HIV.out.ch HC3.out (by simp)).ch HC4.out (by simp))
                     have HU : Hid (Ch [] wr (w4.setCell ⟨wr.heap.size, 3, none⟩ (.slice a4 n4 c4))) := HC24.out.set (.inr (Nat.le_refl _)) _
                     have HSH : Hid (ShT (w4.setCell ⟨wr.heap.size, 3, none⟩ (.slice a4 n4 c4)) true x.view (.slice a4 n4 c4)) := Row.setCell HR4.out (HR4.out.ne HY4.out (by decide)) _
                     have HXU : Hid (Blk (w4.setCell ⟨wr.heap.size, 3, none⟩ (.slice a4 n4 c4)) wo.heap.size 29 [.string s.name, .string es, .slice a j c]) := HX4.out.setCell hne1 _
                     have hcy := HY4.out.cells
                     have hfy := HY4.out.frees
                     have hcx := HX4.out.cells
                     have hfx := HX4.out.frees
                     have hsz4 := HU.out.size
                     clear hci hfi hn4)
                  | (at_builtin; go_loud (refine wpList_append_key rfl (.tmp 48) (.tmp 50) rfl true j _ HKL2.out _ rfl ((HI.out.keys.nilch HU.out).nilch ((Ch.refl [] _).alloc _)) x.view (.slice a4 n4 c4) (HSH.out.ch ((Ch.refl [] _).alloc _) (by simp)) w4.heap.size 1 rfl (Blk.newM (w4.setCell ⟨wr.heap.size, 3, none⟩ (.slice a4 n4 c4)) 31 [.string x.name, .string x.val, .string es, .slice a4 n4 c4] w4.heap.size (by rw [World.size_setCell])) (by omega) Tryz.underlying27 info31 ?_)))
                intro g cap W h2 h3 h4
                have HW2 := Lib.hid ((HXU.out.alloc _).ch h3 HI.out.own_ne)
                have hcw := HW2.out.cells
                have hfw := HW2.out.frees
                have HIN : Hid (InAt true wo.heap.size s.name (s.view.2.take (j + 1)) w2 (W.setCell ⟨wo.heap.size, 2, none⟩ (.slice (some ⟨g, 0, none⟩) (j + 1) cap)) (.slice (some ⟨g, 0, none⟩) (j + 1) cap)) := HI.out.more (HU.out.alloc _) rfl (by rw [HTK.out]; exact h2) h3 (by simpa using h4)
                clear h2 h3 h4 hcy hfy hcx hfx
                go_wp2
                go_roundg (s.keys.length + 1 - (j + 1))
                case measure => omega
                case rel => exact ⟨j + 1, _, _, by omega, rfl, by go_num, HIN⟩
          · obtain rfl : j = s.keys.length := by omega
            have HKT : Hid (KeysT wr sh s.view.2 (.slice a s.keys.length c)) := by
              have h1 := HI.out.keys
              rw [List.take_of_length_le (by rw [view_len]; exact Nat.le_refl _)] at h1
              exact h1
            have HCO : Hid (Ch [] wo wr) := (HCV.out.trans HC2.out (by simp)).trans HI.out.ch (fun y hy => by rw [List.mem_singleton] at hy; exact .inr (Nat.le_of_eq hy.symm))
            have HLK : Hid (((viewOf σ).take k).length = k) := (show _ = _ by rw [List.length_take, viewOf_len]; omega)
            have HTV := Lib.hid (take_view HS.out)
            have hcx := HI.out.x.cells
            have hsz1 := HCO.out.size
            have hsz2 := HC.out.size
            go_wp2_with (at_builtin; go_loud (refine wpList_append_sec rfl (.tmp 54) (.tmp 56) rfl sh k _ HLK.out _ rfl ((HT.out.nilch HCO.out).nilch ((Ch.refl [] _).alloc _)) s.view (.slice a s.keys.length c) (HKT.out.nilch ((Ch.refl [] _).alloc _)) wr.heap.size 1 rfl (Blk.new wr 29 [.string s.name, .string es, .slice a s.keys.length c]) (by omega) Tryz.underlying22 info29 ?_))
            intro g cap W h2 h3 h4
            have HT2 : Hid (SecsT W sh ((viewOf σ).take (k + 1)) (.slice (some ⟨g, 0, none⟩) (k + 1) cap)) := by rw [HTV.out]; exact h2
            have HC5 : Hid (Ch [] w1 W) := ((HC.out.trans HCO.out (by simp)).alloc _).trans h3 (fun y hy => .inr (HO.out y (by simpa using hy)))
            have HO5 : Hid (w1.heap.size ≤ g) := by
              rcases h4 with h | h
              · exact HO.out _ h
              · have : g = wr.heap.size + 1 := by simpa using h
                show w1.heap.size ≤ g
                omega
            clear h2 h3 h4 hcx
            go_wp2
            go_roundg (σ.length + 1 - (k + 1))
            case measure => omega
            case rel => exact ⟨k + 1, _, _, by omega, rfl, by go_num, rfl, HT2, HC5, fun g hg => by cases hg; exact HO5.out⟩
    · obtain rfl : k = σ.length := by omega
      rw [List.take_of_length_le (by rw [viewOf_len]; exact Nat.le_refl _)] at HT
      go_wp2
      go_ret
      exact ⟨_, rfl, HT, HC1.out.trans HC.out (by simp)⟩
end
end Go.Proofs.YtfnncdngfggcjaaGreatDoor
