/- Contracts for FnChildren: HasPrefix, Section.ChildSections, File.ChildSections, Section.Name. -/
import Derived.Test.YtfnncdngfggcjaaGreatDoorFi1
import Derived.Test.YtfnncdngfggcjaaGreatDoorPar1
namespace Go.Proofs.YtfnncdngfggcjaaGreatDoor
open Go.RowKit

def hasPre (s p : ByteArray) : Bool := decide (p.size ≤ s.size) && ((s.extract 0 p.size).toList == p.toList)

theorem hasPre108 (s p : ByteArray) (w : World) (_hs : s.size ≤ 4096) (_hp : p.size ≤ 4096) :
    Calls Tryz.prog 108 #[.string s, .string p] w fun e w' => e = .returned (.bool (hasPre s p)) ∧ w = w' := by
  by_cases h : p.size ≤ s.size
  · cases hx : ((s.extract 0 p.size).toList == p.toList)
    all_goals
      have hq := hx
      clear hx
      go_enter Tryz.func108, Tryz.ntmps108
      go_wp2
      go_ret
      exact ⟨by unfold hasPre; rw [decide_eq_true h, hq]; rfl, rfl⟩
  · go_enter Tryz.func108, Tryz.ntmps108
    go_wp2
    go_ret
    exact ⟨by unfold hasPre; rw [decide_eq_false h]; rfl, rfl⟩
theorem hasPre_any (s p : ByteArray) (w : World) (hs : s.size ≤ 4096) (hp : p.size ≤ 4096) :
    Calls Tryz.prog 83 #[.string s, .string p] w fun e w' => e = .returned (.bool (hasPre s p)) ∧ w = w' := by
  have H := Lib.hid (hasPre108 s p w hs hp)
  go_enter Tryz.func83, Tryz.ntmps83
  go_wp2_with (go_at_call 108; refine H.out.mono ?_; rintro e w' ⟨rfl, rfl⟩)
  go_ret
  exact ⟨rfl, rfl⟩

/-- The sections whose names begin so. -/
def kids (σ : List SecA) (p : ByteArray) : List SecA := σ.filter fun x => hasPre x.name p
theorem kids_take {σ : List SecA} {p : ByteArray} {k : Nat} (hk : k < σ.length) : kids (σ.take (k + 1)) p = kids (σ.take k) p ++ (if hasPre σ[k].name p then [σ[k]] else []) := by
  unfold kids
  rw [List.take_succ_eq_append_getElem hk, List.filter_append]
  congr 1
  by_cases h : hasPre σ[k].name p = true
  · simp [h]
  · simp [h]

section
variable {B : Nat} {own : Nat → Nat} {fb : Nat} {sh : Bool} {σ : List SecA} {dsv slv siv : Value} {mb i : Nat} {s : SecA}

theorem secName_any (w : World) (hF : FileOK B own w fb sh σ dsv slv siv mb) (hi : σ[i]? = some s) :
    Calls Tryz.prog 50 #[ptr s.sb] w fun e w' => e = .returned (.string s.name) ∧ w = w' := by
  have hc := (hF.secs i s hi).sec.cells
  simp only [secCells] at hc
  clear hF
  unfold ptr
  go_enter Tryz.func50, Tryz.ntmps50
  go_wp2
  go_ret
  exact ⟨rfl, rfl⟩

set_option maxRecDepth 100000 in
set_option maxHeartbeats 2000000 in
theorem childSections_any (w : World) (hF : FileOK B own w fb sh σ dsv slv siv mb) (hi : σ[i]? = some s) (hsz : s.name.size ≤ 1000) (hlen : σ.length ≤ 1000) (hnm : ∀ x, x ∈ σ → x.name.size ≤ 1000) :
    Calls Tryz.prog 69 #[ptr s.sb] w fun e w' => ∃ v', e = .returned v' ∧ Hid (Row w' 62 v' ((kids σ (s.name ++ ⟨#[46]⟩)).map fun x => ptr x.sb)) ∧ Hid (Ch [] w w') := by
  have hmk : ∀ W, (Instr.makeSlice 74 (.int .i64 0) (.int .i64 3)).run Tryz.prog W = .ok (.slice (some ⟨W.heap.size, 0, none⟩) 0 3) (W.alloc (.cells #[.pointer none, .pointer none, .pointer none] 62)) := fun _ => by kernel_rfl
  have hc := (hF.secs i s hi).sec.cells
  have hfc := hF.file.cells
  simp only [secCells] at hc
  simp only [fileCells] at hfc
  have hslt := (hF.secs i s hi).sec.lt
  have hflt := hF.file.lt
  have HF := Lib.hid hF
  have HNM := Lib.hid hnm
  have HS := Lib.hid hi
  have h0 : 0 < σ.length := Nat.lt_of_le_of_lt (Nat.zero_le i) (List.getElem?_eq_some_iff.1 hi).1
  have hslen : (strs (σ.map (·.name))).length = σ.length := by simp [strs]
  obtain ⟨gs, cs, rfl, hgc, hgl, hcl⟩ : ∃ g cap, slv = .slice (some ⟨g, 0, none⟩) σ.length cap ∧ σ.length ≤ cap ∧ g < w.heap.size ∧ ∀ j (h : j < σ.length), w.cell? ⟨g, j, none⟩ = some (.string σ[j].name) := by
    rcases hF.sl.form with ⟨_, h⟩ | ⟨g, cap, h1, h2, h3, h4⟩
    · exfalso
      have : σ.length = 0 := by rw [← hslen, h]; rfl
      omega
    · rw [hslen] at h1 h2
      refine ⟨g, cap, h1, h2, h3, fun j hj => h4 j _ ?_⟩
      unfold strs
      rw [List.getElem?_map, List.getElem?_map, List.getElem?_eq_getElem hj]; rfl
  have HCL := Lib.hid hcl
  have hrow : ∀ W : World, Row (W.alloc (.cells #[.pointer none, .pointer none, .pointer none] 62)) 62 (.slice (some ⟨W.heap.size, 0, none⟩) 0 3) [] := fun W => Row.ofBlk (xs := []) (spare := [.pointer none, .pointer none, .pointer none]) (Blk.new W 62 _) rfl (by decide)
  have HROW := Lib.hid hrow
  have hcA : ∀ n o, ((w.drewN n).alloc (.cells #[.pointer none, .pointer none, .pointer none] 62)).cell? ⟨s.sb, o, none⟩ = (secCells fb es s.name s.km s.klv s.kh)[o]? := fun n => (((hF.secs i s hi).sec.drewN n).alloc _).cells
  have hfA : ∀ n o, ((w.drewN n).alloc (.cells #[.pointer none, .pointer none, .pointer none] 62)).cell? ⟨fb, o, none⟩ = (fileCells sh dsv (.slice (some ⟨gs, 0, none⟩) σ.length cs) siv mb)[o]? := fun n => ((hF.file.drewN n).alloc _).cells
  simp only [secCells] at hcA
  simp only [fileCells] at hfA
  have hpz : (s.name ++ (⟨#[46]⟩ : ByteArray)).size ≤ 4096 := by rw [ByteArray.size_append]; show s.name.size + 1 ≤ 4096; omega
  have HPR : Hid (∀ x W, x ∈ σ → Calls Tryz.prog 83 #[.string x.name, .string (s.name ++ ⟨#[46]⟩)] W fun e w' => e = .returned (.bool (hasPre x.name (s.name ++ ⟨#[46]⟩))) ∧ W = w') := fun x W hx => hasPre_any _ _ W (by have := hnm x hx; omega) hpz
  clear hF hi hnm hcl hrow hpz
  unfold ptr at *
  go_enter Tryz.func69, Tryz.ntmps69
  go_wp2
  go_quiet (fail)
  go_wp2
  go_loopg [4, 29] (σ.length + 1) (fun gf s4 s29 wx => ∃ k : Nat, k ≤ σ.length ∧ gf = σ.length + 1 - k ∧ s29 = .int .i64 k ∧ Hid (Row wx 62 s4 ((kids (σ.take k) (s.name ++ ⟨#[46]⟩)).map fun x => .pointer (some ⟨x.sb, 0, none⟩))) ∧ Hid (Ch [] w wx) ∧ Hid (∀ g, s4.ownBlock = some g → w.heap.size ≤ g))
  case atStart => exact ⟨0, Nat.zero_le _, rfl, rfl, HROW.out _, ((Ch.refl [] w).drewN _).alloc _, fun g hg => by cases hg; exact Nat.le_refl _⟩
  case round =>
    obtain ⟨k, hk, hgk, rfl, HR, HC, HO⟩ := hrel
    clear hc hfc hcA hfA hmk
    have hcx := ((HF.out.nil HC.out).secs i s HS.out).sec.cells
    have hfx := (HF.out.nil HC.out).file.cells
    simp only [secCells] at hcx
    simp only [fileCells] at hfx
    by_cases hlt : k < σ.length
    · have hcell := (HC.out.cell (p := ⟨gs, k, none⟩) hgl (by simp)).trans (HCL.out k hlt)
      obtain ⟨x, hx⟩ : ∃ x, σ[k] = x := ⟨_, rfl⟩
      have hxm : x ∈ σ := by rw [← hx]; exact List.getElem_mem hlt
      have hx? : σ[k]? = some x := by rw [List.getElem?_eq_getElem hlt, hx]
      have hlk := (HF.out.nil HC.out).look hx?
      have hg0 := (HF.out.nil HC.out).grp0 hx?
      have HP := Lib.hid (fun W => HPR.out x W hxm)
      have HKT := Lib.hid (kids_take (p := s.name ++ ⟨#[46]⟩) hlt)
      have HKL : Hid ((kids (σ.take k) (s.name ++ ⟨#[46]⟩)).length ≤ 1000) := by
        have h1 := List.length_filter_le (fun x : SecA => hasPre x.name (s.name ++ ⟨#[46]⟩)) (σ.take k)
        have h2 : (σ.take k).length ≤ σ.length := by rw [List.length_take]; omega
        unfold kids; exact Nat.le_trans h1 (Nat.le_trans h2 hlen)
      rw [hx] at hcell HKT
      cases hp : hasPre x.name (s.name ++ ⟨#[46]⟩) with
      | false =>
        rw [hp] at HP HKT
        clear hx hxm hx? hp
        go_wp2_with (go_at_call 83; refine (HP.out _).mono ?_; rintro e w' ⟨rfl, rfl⟩)
        go_roundg (σ.length + 1 - (k + 1))
        case measure => omega
        case rel => exact ⟨k + 1, by omega, rfl, by go_num, by rw [HKT.out]; simpa using HR, HC, HO⟩
      | true =>
        rw [hp] at HP HKT
        clear hx hxm hx? hp
        go_wp2_with (first
          | (go_at_call 83; refine (HP.out _).mono ?_; rintro e w' ⟨rfl, rfl⟩)
          | (at_builtin; refine wpList_append_row rfl (.tmp 36) (.tmp 45) 74 rfl 62 (.pointer none) 8 Tryz.underlying74 info62 rfl _ _ rfl HR.out ⟨x.gb, 0, none⟩ x.gcap (.pointer (some ⟨x.sb, 0, none⟩)) rfl hg0 rfl ?_ (by omega) ?_))
        · rw [List.length_map]; have := HKL.out; omega
        intro g1 cap1 w1 hr1 hch1 hg1 hg1l
        have HR1 := Lib.hid hr1
        have HC1 : Hid (Ch [] w w1) := HC.out.trans hch1 (fun y hy => .inr (HO.out y (by simpa using hy)))
        have HO1 : Hid (w.heap.size ≤ g1) := by
          rcases hg1 with h | h
          · exact HO.out _ h
          · have := HC.out.size; show w.heap.size ≤ g1; omega
        clear hr1 hch1 hg1 hg1l
        go_wp2
        go_roundg (σ.length + 1 - (k + 1))
        case measure => omega
        case rel => exact ⟨k + 1, by omega, rfl, by go_num, by rw [HKT.out, List.map_append]; simpa [Row] using HR1, HC1, fun g hg => by cases hg; exact HO1.out⟩
    · obtain rfl : k = σ.length := by omega
      rw [List.take_length] at HR
      go_wp2
      go_ret
      exact ⟨_, rfl, HR, HC⟩

set_option maxRecDepth 100000 in
set_option maxHeartbeats 1000000 in
theorem fileChildren_any (w : World) (hF : FileOK B own w fb sh σ dsv slv siv mb) (hi : σ[i]? = some s) (hpos : 0 < s.name.size) (hsz : s.name.size ≤ 1000) (hlen : σ.length ≤ 1000) (hnm : ∀ x, x ∈ σ → x.name.size ≤ 1000) :
    Calls Tryz.prog 49 #[ptr fb, .string s.name] w fun e w' => ∃ v', e = .returned v' ∧ Hid (Row w' 62 v' ((kids σ (s.name ++ ⟨#[46]⟩)).map fun x => ptr x.sb)) ∧ Hid (Ch [] w w') := by
  have H1 := Lib.hid (section_of w s.name (getSection_found w hF hi hpos))
  have H2 := Lib.hid (childSections_any w hF hi hsz hlen hnm)
  clear hF
  unfold ptr at *
  go_enter Tryz.func49, Tryz.ntmps49
  go_wp2_with (first
    | (go_at_call 68; refine H1.out.mono ?_; rintro e w' ⟨rfl, rfl⟩)
    | (go_at_call 69; refine H2.out.mono ?_; rintro e w' ⟨v', rfl, h1, h2⟩))
  go_ret
  exact ⟨_, rfl, h1, h2⟩
end
end Go.Proofs.YtfnncdngfggcjaaGreatDoor
