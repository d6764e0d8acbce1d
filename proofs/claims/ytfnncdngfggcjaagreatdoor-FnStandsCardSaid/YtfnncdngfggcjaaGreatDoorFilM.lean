/- Contracts of newSection, newKey and inSlice. What a file is in memory: FileOK; its frame. A store into a map keyed by texts. Contract of File.NewSection where there is no section of that name. Contract of Section.NewKey where there is no key of that name. A file with one section more, with one key more. -/
import Derived.Test.YtfnncdngfggcjaaGreatDoorRow
import Derived.Test.YtfnncdngfggcjaaGreatDoorPureM
import Derived.MapKept
import Derived.Deep.RegionHeld3
import Derived.Deep.RegionLaw
import Derived.BigRegion
import Derived.Deep.QuietTactic
import Derived.BigQuiet

namespace Go.Proofs.YtfnncdngfggcjaaGreatDoor
open Go.RowKit

theorem MapAt.new (w : World) : MapAt (w.alloc (.map #[] 0)) w.heap.size [] := ⟨#[], 0, by show (w.heap.push _)[w.heap.size]? = _; simp, rfl⟩
theorem MapAt.lt {w : World} {b : Nat} {l : List (ByteArray × Value)} (h : MapAt w b l) : b < w.heap.size := by
  obtain ⟨es, c, h, _⟩ := h; exact (Array.getElem?_eq_some_iff.1 h).1
theorem MapAt.same {w w' : World} {b : Nat} {l : List (ByteArray × Value)} (h : MapAt w b l) (hh : w'.heap[b]? = w.heap[b]?) : MapAt w' b l := by
  obtain ⟨es, c, h, r⟩ := h; exact ⟨es, c, by rw [hh]; exact h, r⟩
theorem MapAt.ch {w w' : World} {b : Nat} {l : List (ByteArray × Value)} (h : MapAt w b l) {S : List Nat} (k : Ch S w w') (hb : b ∉ S) : MapAt w' b l := h.same (k.block b h.lt hb)
theorem MapAt.alloc {w : World} {b : Nat} {l : List (ByteArray × Value)} (h : MapAt w b l) (o : Obj) : MapAt (w.alloc o) b l := h.ch ((Ch.refl [] w).alloc o) (by simp)
theorem MapAt.drew {w : World} {b : Nat} {l : List (ByteArray × Value)} (h : MapAt w b l) : MapAt w.drew b l := h
theorem MapAt.ne {w : World} {b : Nat} {l : List (ByteArray × Value)} (h : MapAt w b l) {b' : Nat} {T : TypeId} {cs : List Value} (hb : Blk w b' T cs) : b ≠ b' := by
  rintro rfl
  obtain ⟨es, c, h, _⟩ := h
  unfold Blk at hb; rw [h] at hb; cases hb
theorem MapAt.setCell {w : World} {b : Nat} {l : List (ByteArray × Value)} (h : MapAt w b l) {a : Addr} (hne : b ≠ a.block) (u : Value) : MapAt (w.setCell a u) b l := h.same (Below.heap_setCell _ _ _ _ hne)

abbrev es : ByteArray := ⟨#[]⟩

def secCells (fb : Nat) (com name : ByteArray) (km : Nat) (klv : Value) (kh : Nat) : List Value :=
  [.pointer (some ⟨fb, 0, none⟩), .string com, .string name, .map (some km), klv, .map (some kh), .bool false, .string es]

set_option maxHeartbeats 400000 in
theorem newSection_any (fb : Nat) (name : ByteArray) (w : World) :
    Calls Tryz.prog 103 #[.pointer (some ⟨fb, 0, none⟩), .string name] w fun e w' => ∃ sb km kl kh, e = .returned (.pointer (some ⟨sb, 0, none⟩)) ∧ w.heap.size ≤ sb ∧ w.heap.size ≤ km ∧ w.heap.size ≤ kl ∧ w.heap.size ≤ kh ∧ km ≠ kh ∧
      Blk w' sb 96 (secCells fb es name km (.slice (some ⟨kl, 0, none⟩) 0 10) kh) ∧ MapAt w' km [] ∧ MapAt w' kh [] ∧ Row w' 9 (.slice (some ⟨kl, 0, none⟩) 0 10) [] ∧ Ch [] w w' := by
  have hmm := @run_makeMap Tryz.prog
  have hmk : ∀ W, (Instr.makeSlice 26 (.int .i64 0) (.int .i64 10)).run Tryz.prog W = .ok (.slice (some ⟨W.heap.size, 0, none⟩) 0 10) (W.alloc (.cells #[.string es, .string es, .string es, .string es, .string es, .string es, .string es, .string es, .string es, .string es] 9)) := fun _ => by kernel_rfl
  go_enter Tryz.func103, Tryz.ntmps103
  go_wp2
  go_ret
  refine ⟨w.heap.size + 3, w.heap.size, w.heap.size + 1, w.heap.size + 2, rfl, by omega, by omega, by omega, by omega, by omega, ?_, ?_, ?_, ?_, ?_⟩
  · exact Blk.newM _ 96 (secCells fb es name w.heap.size (.slice (some ⟨w.heap.size + 1, 0, none⟩) 0 10) (w.heap.size + 2)) _ (by simp)
  · exact (((MapAt.new w).alloc _).alloc _).alloc _
  · have := (MapAt.new ((w.alloc (.map #[] 0)).alloc (.cells #[.string es, .string es, .string es, .string es, .string es, .string es, .string es, .string es, .string es, .string es] 9))).alloc (.cells (secCells fb es name w.heap.size (.slice (some ⟨w.heap.size + 1, 0, none⟩) 0 10) (w.heap.size + 2)).toArray 96)
    simp only [World.size_alloc] at this
    exact this
  · refine Row.alloc (Row.alloc ?_ _) _
    exact Row.ofBlk (xs := []) (Blk.newM (w.alloc (.map #[] 0)) 9 [.string es, .string es, .string es, .string es, .string es, .string es, .string es, .string es, .string es, .string es] (w.heap.size + 1) (by simp)) rfl (by unfold maxLen; omega)
  · exact ((((Ch.refl [] w).alloc _).alloc _).alloc _).alloc _

def keyCells (sb : Nat) (com name val : ByteArray) (auto shadow : Bool) (shv : Value) : List Value :=
  [.pointer (some ⟨sb, 0, none⟩), .string com, .string name, .string val, .bool auto, .bool false, .bool shadow, shv, .slice none 0 0]

set_option maxHeartbeats 400000 in
theorem newKey_any (sb : Nat) (name val : ByteArray) (w : World) :
    Calls Tryz.prog 105 #[.pointer (some ⟨sb, 0, none⟩), .string name, .string val] w fun e w' => e = .returned (.pointer (some ⟨w.heap.size, 0, none⟩)) ∧ w.alloc (.cells (keyCells sb es name val false false (.slice none 0 0)).toArray 107) = w' := by
  go_enter Tryz.func105, Tryz.ntmps105
  go_wp2
  go_ret
  exact ⟨rfl, rfl⟩

def strs (l : List ByteArray) : List Value := l.map .string

theorem strs_get {l : List ByteArray} {k : Nat} (h : k < l.length) : (strs l)[k]? = some (.string l[k]) := by
  unfold strs; rw [List.getElem?_map, List.getElem?_eq_getElem h]; rfl

set_option maxHeartbeats 1000000 in
theorem inSlice_any (name : ByteArray) (v : Value) (l : List ByteArray) (b : Bool) (hb : b = true ↔ name ∈ l) (w : World) (hv : Row w 9 v (strs l)) (hl : l.length ≤ 1000000) :
    Calls Tryz.prog 102 #[.string name, v] w fun e w' => e = .returned (.bool b) ∧ w = w' := by
  rcases hv.form with ⟨rfl, h0⟩ | ⟨g, cap, rfl, hcap, _, hc⟩
  · have : l = [] := by simpa [strs] using h0
    subst this
    have hb' : b = false := by cases b <;> simp_all
    subst hb'
    clear hb
    go_enter Tryz.func102, Tryz.ntmps102
    go_wp2
    refine wp_loop_rounds 1 ?_
    rw [rounds_succ]
    go_wp2
    go_ret
    exact ⟨rfl, rfl⟩
  · have hsl : (strs l).length = l.length := by simp [strs]
    rw [hsl]
    have HC : Hid (∀ k (h : k < l.length), w.cell? ⟨g, k, none⟩ = some (.string l[k])) := fun k h => hc k _ (strs_get h)
    have HBB := Lib.hid hb
    clear hc hv hcap hsl hb
    go_enter Tryz.func102, Tryz.ntmps102
    go_wp2
    go_loop [9] (fun i => ∃ k : Nat, k ≤ l.length ∧ i = .int .i64 k ∧ Hid (∀ j (h : j < l.length), j < k → name ≠ l[j])) (fun i => l.length - (intOf i).toNat)
    case atStart => exact ⟨0, Nat.zero_le _, rfl, fun j _ hj => absurd hj (Nat.not_lt_zero _)⟩
    case round =>
      obtain ⟨k, hk, rfl, hno⟩ := hrel
      by_cases hlt : k < l.length
      · have hcell := HC.out k hlt
        by_cases heq : name = l[k]
        · have hbq : (name.toList == l[k].toList) = true := by rw [heq]; simp
          have hfin : Hid (b = true) := HBB.out.2 (by rw [heq]; exact List.getElem_mem hlt)
          clear heq
          go_wp2
          go_ret
          exact ⟨by rw [hfin.out]; rfl, rfl⟩
        · have hbq : (name.toList == l[k].toList) = false := beq_eq_false_iff_ne.2 (fun e => heq (by rw [ba_of_list e, ← ba_of_list (rfl : l[k].toList = l[k].toList)]))
          have hno' : Hid (∀ j (h : j < l.length), j < k + 1 → name ≠ l[j]) := fun j h hj => by
            rcases Nat.lt_or_ge j k with h' | h'
            · exact hno.out j h h'
            · obtain rfl : j = k := by omega
              exact heq
          clear heq hno
          go_wp2
          go_round
          case rel => exact ⟨k + 1, by omega, by go_num, hno'⟩
          case measure => simp [intOf]; omega
      · obtain rfl : k = l.length := by omega
        have hfin : Hid (b = false) := by
          refine (Bool.eq_false_iff.2 fun hb => ?_ : b = false)
          obtain ⟨j, hj, e⟩ := List.getElem_of_mem (HBB.out.1 hb)
          exact hno.out j hj hj e.symm
        clear hno
        go_wp2
        go_ret
        exact ⟨by rw [hfin.out]; rfl, rfl⟩
end Go.Proofs.YtfnncdngfggcjaaGreatDoor

namespace Go.Proofs.YtfnncdngfggcjaaGreatDoor
open Go.RowKit

structure KeyA where
  kb : Nat
  name : ByteArray
  val : ByteArray
  auto : Bool
  shv : Value
  shs : List (Nat × ByteArray)

structure SecA where
  sb : Nat
  km : Nat
  kh : Nat
  klv : Value
  gb : Nat
  gcap : Nat
  name : ByteArray
  keys : List KeyA

def ptr (b : Nat) : Value := .pointer (some ⟨b, 0, none⟩)

def fileCells (sh : Bool) (dsv slv siv : Value) (mb : Nat) : List Value :=
  [.bool false, .bool false, .bool false, .bool false, .bool false, .bool false, .bool false, .bool false, .bool false, .bool sh, .bool false, .bool false, .bool false, .bool false, .bool false,
   .slice none 0 0, .string ⟨#[61, 58]⟩, .string ⟨#[61]⟩, .string ⟨#[46]⟩, .bool false, .int .i64 0, .bool false, .bool false,
   dsv, .bool true, slv, siv, .map (some mb), .nilFunc]

structure KeyOK (w : World) (sb : Nat) (k : KeyA) : Prop where
  key : Blk w k.kb 107 (keyCells sb es k.name k.val k.auto false k.shv)
  shr : Row w 70 k.shv (k.shs.map fun x => ptr x.1)
  shk : ∀ x, x ∈ k.shs → Blk w x.1 107 (keyCells sb es k.name x.2 false true (.slice none 0 0))
  au : k.auto = true → bt k.name 0 = 35
  nsh : k.shs = [] → k.shv = .slice none 0 0

structure SecOK (own : Nat → Nat) (i : Nat) (w : World) (fb : Nat) (s : SecA) : Prop where
  sec : Blk w s.sb 96 (secCells fb es s.name s.km s.klv s.kh)
  km : MapAt w s.km (s.keys.map fun k => (k.name, ptr k.kb))
  kh : ∃ l, MapAt w s.kh l
  kl : Row w 9 s.klv (strs (s.keys.map (·.name)))
  ne : s.km ≠ s.kh
  keys : ∀ k, k ∈ s.keys → KeyOK w s.sb k
  osb : own s.sb = i + 2
  okm : own s.km = i + 2
  okh : own s.kh = i + 2
  okl : ∀ g, s.klv.ownBlock = some g → own g = i + 2
  okb : ∀ k, k ∈ s.keys → own k.kb = i + 2 ∧ ∀ x, x ∈ k.shs → own x.1 = i + 2
  grp : Row w 62 (.slice (some ⟨s.gb, 0, none⟩) 1 s.gcap) [ptr s.sb]
  nodup : (s.keys.map (·.name)).Nodup
  nodupb : (s.keys.map (·.kb)).Nodup

structure FileOK (B : Nat) (own : Nat → Nat) (w : World) (fb : Nat) (sh : Bool) (σ : List SecA) (dsv slv siv : Value) (mb : Nat) : Prop where
  old : ∀ b, b < B → own b = 0
  file : Blk w fb 102 (fileCells sh dsv slv siv mb)
  sl : Row w 9 slv (strs (σ.map (·.name)))
  si : Row w 3 siv (σ.map fun _ => .int .i64 0)
  mp : MapAt w mb (σ.map fun s => (s.name, .slice (some ⟨s.gb, 0, none⟩) 1 s.gcap))
  secs : ∀ i s, σ[i]? = some s → SecOK own i w fb s
  ofb : own fb = 1
  omb : own mb = 1
  osl : ∀ g, slv.ownBlock = some g → own g = 1
  osi : ∀ g, siv.ownBlock = some g → own g = 1
  nodup : (σ.map (·.name)).Nodup

/-- The types of a file's blocks. -/
def fileTypes : List TypeId := [102, 9, 3, 96, 62, 107, 70]

/-- None of these blocks is one of a file's. -/
def Alien (w : World) (S : List Nat) : Prop := ∀ b, b ∈ S → ∃ T cs, Blk w b T cs ∧ T ∉ fileTypes
/-- All of these blocks are of a file's kinds, or maps. -/
def Native (B : Nat) (w : World) (S : List Nat) : Prop := ∀ b, b ∈ S → B ≤ b ∧ ∀ T cs, Blk w b T cs → T ∈ fileTypes

theorem Native.not {B : Nat} {w : World} {S : List Nat} (h : Native B w S) {b : Nat} {T : TypeId} {cs : List Value} (hb : Blk w b T cs) (hT : T ∉ fileTypes) : b ∉ S := fun hm => hT ((h b hm).2 T cs hb)
theorem Native.ge {B : Nat} {w : World} {S : List Nat} (h : Native B w S) : ∀ b, b ∈ S → B ≤ b := fun b hb => (h b hb).1
theorem Alien.blk {w : World} {S : List Nat} (h : Alien w S) {b : Nat} {T : TypeId} {cs : List Value} (hb : Blk w b T cs) (hT : T ∈ fileTypes) : b ∉ S := fun hm => by
  obtain ⟨T', cs', h1, h2⟩ := h b hm
  by_cases e : T' = T
  · subst e; exact h2 hT
  · exact h1.ne hb e rfl
theorem Alien.map {w : World} {S : List Nat} (h : Alien w S) {b : Nat} {l : List (ByteArray × Value)} (hb : MapAt w b l) : b ∉ S := fun hm => by
  obtain ⟨T', cs', h1, _⟩ := h b hm
  exact hb.ne h1 rfl
theorem Alien.row {w : World} {S : List Nat} (h : Alien w S) {T : TypeId} {v : Value} {xs : List Value} (hr : Row w T v xs) (hT : T ∈ fileTypes) : ∀ g, v.ownBlock = some g → g ∉ S := fun g hg => by
  obtain ⟨cur, cap, _, hb, _⟩ := hr.blk hg
  exact h.blk hb hT

theorem KeyOK.ch {w w' : World} {sb : Nat} {k : KeyA} (h : KeyOK w sb k) {S : List Nat} (c : Ch S w w') (h1 : k.kb ∉ S) (h2 : ∀ g, k.shv.ownBlock = some g → g ∉ S) (h3 : ∀ x, x ∈ k.shs → x.1 ∉ S) : KeyOK w' sb k :=
  ⟨h.key.ch c h1, h.shr.ch c h2, fun x hx => (h.shk x hx).ch c (h3 x hx), h.au, h.nsh⟩
theorem KeyOK.alien {w w' : World} {sb : Nat} {k : KeyA} (h : KeyOK w sb k) {S : List Nat} (c : Ch S w w') (hS : Alien w S) : KeyOK w' sb k :=
  h.ch c (hS.blk h.key (by decide)) (hS.row h.shr (by decide)) (fun x hx => hS.blk (h.shk x hx) (by decide))
theorem SecOK.alien {own : Nat → Nat} {i : Nat} {w w' : World} {fb : Nat} {s : SecA} (h : SecOK own i w fb s) {S : List Nat} (c : Ch S w w') (hS : Alien w S) : SecOK own i w' fb s :=
  { sec := h.sec.ch c (hS.blk h.sec (by decide)), km := h.km.ch c (hS.map h.km), kh := (let ⟨l, hl⟩ := h.kh; ⟨l, hl.ch c (hS.map hl)⟩), kl := h.kl.ch c (hS.row h.kl (by decide)), ne := h.ne,
    keys := fun k hk => (h.keys k hk).alien c hS, osb := h.osb, okm := h.okm, okh := h.okh, okl := h.okl, okb := h.okb, grp := h.grp.ch c (hS.row h.grp (by decide)), nodup := h.nodup, nodupb := h.nodupb }
theorem FileOK.alien {B : Nat} {own : Nat → Nat} {w w' : World} {fb : Nat} {sh : Bool} {σ : List SecA} {dsv slv siv : Value} {mb : Nat} (h : FileOK B own w fb sh σ dsv slv siv mb) {S : List Nat} (c : Ch S w w') (hS : Alien w S) : FileOK B own w' fb sh σ dsv slv siv mb :=
  { old := h.old, file := h.file.ch c (hS.blk h.file (by decide)), sl := h.sl.ch c (hS.row h.sl (by decide)), si := h.si.ch c (hS.row h.si (by decide)), mp := h.mp.ch c (hS.map h.mp),
    secs := fun i s hs => (h.secs i s hs).alien c hS, ofb := h.ofb, omb := h.omb, osl := h.osl, osi := h.osi, nodup := h.nodup }
theorem FileOK.nil {B : Nat} {own : Nat → Nat} {w w' : World} {fb : Nat} {sh : Bool} {σ : List SecA} {dsv slv siv : Value} {mb : Nat} (h : FileOK B own w fb sh σ dsv slv siv mb) (c : Ch [] w w') : FileOK B own w' fb sh σ dsv slv siv mb :=
  h.alien c (fun b hb => by cases hb)

/-- A section stays whole where nothing of its own is turned. -/
theorem SecOK.other {own : Nat → Nat} {i : Nat} {w w' : World} {fb : Nat} {s : SecA} (h : SecOK own i w fb s) {S : List Nat} (c : Ch S w w') (hS : ∀ b, b ∈ S → own b ≠ i + 2 ∧ (∀ T cs, Blk w b T cs → T ≠ 62 ∧ T ≠ 70)) : SecOK own i w' fb s := by
  have no : ∀ b, own b = i + 2 → b ∉ S := fun b hb hm => (hS b hm).1 hb
  have row : ∀ T v xs, Row w T v xs → T = 62 ∨ T = 70 → ∀ g, v.ownBlock = some g → g ∉ S := fun T v xs hr hT g hg hm => by
    obtain ⟨cur, cap, _, hb, _⟩ := hr.blk hg
    have := (hS g hm).2 _ _ hb
    rcases hT with rfl | rfl
    · exact this.1 rfl
    · exact this.2 rfl
  exact { sec := h.sec.ch c (no _ h.osb), km := h.km.ch c (no _ h.okm), kh := (let ⟨l, hl⟩ := h.kh; ⟨l, hl.ch c (no _ h.okh)⟩), kl := h.kl.ch c (fun g hg => no _ (h.okl g hg)), ne := h.ne,
          keys := fun k hk => (h.keys k hk).ch c (no _ (h.okb k hk).1) (row _ _ _ (h.keys k hk).shr (.inr rfl)) (fun x hx => no _ ((h.okb k hk).2 x hx)),
          osb := h.osb, okm := h.okm, okh := h.okh, okl := h.okl, okb := h.okb, grp := h.grp.ch c (row _ _ _ h.grp (.inl rfl)), nodup := h.nodup, nodupb := h.nodupb }
/-- .. under another word on who owns what, the same for what was there. -/
theorem SecOK.own {own own' : Nat → Nat} {i : Nat} {w : World} {fb : Nat} {s : SecA} (h : SecOK own i w fb s) (e : ∀ b, b < w.heap.size → own' b = own b) : SecOK own' i w fb s :=
  { sec := h.sec, km := h.km, kh := h.kh, kl := h.kl, ne := h.ne, keys := h.keys, osb := (e _ h.sec.lt).trans h.osb, okm := (e _ h.km.lt).trans h.okm, okh := (let ⟨_, hl⟩ := h.kh; e _ hl.lt).trans h.okh,
    okl := fun g hg => (e _ (h.kl.lt hg)).trans (h.okl g hg), okb := fun k hk => ⟨(e _ (h.keys k hk).key.lt).trans (h.okb k hk).1, fun x hx => (e _ ((h.keys k hk).shk x hx).lt).trans ((h.okb k hk).2 x hx)⟩,
    grp := h.grp, nodup := h.nodup, nodupb := h.nodupb }
end Go.Proofs.YtfnncdngfggcjaaGreatDoor

namespace Go.Proofs.YtfnncdngfggcjaaGreatDoor
open Go.RowKit

theorem ba_beq (a b : ByteArray) : (a == b) = true ↔ a = b := by
  cases a with | mk x => cases b with | mk y =>
  show (x == y) = true ↔ _
  simp
theorem ba_bne {a b : ByteArray} (h : a ≠ b) : (a == b) = false := by
  cases e : (a == b) with
  | false => rfl
  | true => exact absurd ((ba_beq a b).1 e) h

def putObj (k : ByteArray) (v : Value) : Option Obj → Obj
  | some (.map es clock) => match Instr.findNow .string (.string k) es.toList 0 with
    | some (some (i, _)) => .map (es.modify i fun e => { e with key := .string k, val := v }) clock
    | _ => .map (es.push { key := .string k, val := v, born := clock }) (clock + 1)
  | _ => .map #[] 0
/-- The world behind a store into a map. -/
def putW (w : World) (b : Nat) (k : ByteArray) (v : Value) : World := setO w b (putObj k v w.heap[b]?)

theorem findAt_none {k : ByteArray} : ∀ {l : List (ByteArray × Value)} (i : Nat), k ∉ l.map (·.1) → findAt k l i = none
  | [], _, _ => rfl
  | p :: r, i, h => by
    simp only [List.map_cons, List.mem_cons, not_or] at h
    simp only [findAt, ba_bne h.1]
    exact findAt_none (i + 1) h.2
theorem lookL_none {l : List (ByteArray × Value)} {k : ByteArray} (h : k ∉ l.map (·.1)) : lookL l k = none := by
  unfold lookL; rw [findAt_none 0 h]; rfl
theorem putL_none {k : ByteArray} {v : Value} : ∀ {l : List (ByteArray × Value)}, k ∉ l.map (·.1) → putL l k v = l ++ [(k, v)]
  | [], _ => rfl
  | p :: r, h => by
    simp only [List.map_cons, List.mem_cons, not_or] at h
    simp only [putL, ba_bne h.1, List.cons_append]
    rw [if_neg (by simp), putL_none h.2]
theorem lookL_cons (p : ByteArray × Value) (r : List (ByteArray × Value)) (k : ByteArray) : lookL (p :: r) k = if k = p.1 then some p.2 else lookL r k := by
  unfold lookL
  by_cases h : k = p.1
  · have : (k == p.1) = true := (ba_beq _ _).2 h
    rw [if_pos h]; simp only [findAt, this]; rfl
  · simp only [findAt, ba_bne h, if_neg h]
    rw [show (0 + 1) = (0 : Nat) + 1 from rfl, findAt_shift]
    simp [Option.map_map, Function.comp_def]
theorem lookL_get {l : List (ByteArray × Value)} {i : Nat} {k : ByteArray} {v : Value} (hn : (l.map (·.1)).Nodup) (h : l[i]? = some (k, v)) : lookL l k = some v := by
  induction l generalizing i with
  | nil => simp at h
  | cons p r ih =>
    rw [lookL_cons]
    rw [List.map_cons, List.nodup_cons] at hn
    cases i with
    | zero => simp at h; subst h; simp
    | succ i =>
      simp at h
      have hm : k ∈ r.map (·.1) := List.mem_map.2 ⟨(k, v), List.mem_of_getElem? h, rfl⟩
      have hkp : k ≠ p.1 := fun e => hn.1 (e ▸ hm)
      rw [if_neg hkp]
      exact ih hn.2 h
theorem putL_get {k : ByteArray} {v v' : Value} : ∀ {l : List (ByteArray × Value)} {i : Nat}, (l.map (·.1)).Nodup → l[i]? = some (k, v) → putL l k v' = l.set i (k, v')
  | [], _, _, h => by simp at h
  | p :: r, i, hn, h => by
    rw [List.map_cons, List.nodup_cons] at hn
    cases i with
    | zero =>
      simp at h; subst h
      have : (k == k) = true := (ba_beq _ _).2 rfl
      simp [putL, this]
    | succ i =>
      simp at h
      have hm : k ∈ r.map (·.1) := List.mem_map.2 ⟨(k, v), List.mem_of_getElem? h, rfl⟩
      have hkp : k ≠ p.1 := fun e => hn.1 (e ▸ hm)
      simp only [putL, ba_bne hkp]
      rw [if_neg (by simp), putL_get hn.2 h]
      rfl

theorem findAt_spec {k : ByteArray} : ∀ {l : List (ByteArray × Value)} {i j : Nat} {v : Value}, findAt k l i = some (j, v) → ∃ m, j = i + m ∧ l[m]? = some (k, v) ∧ ∀ v', putL l k v' = l.set m (k, v')
  | [], _, _, _, h => by simp [findAt] at h
  | p :: r, i, j, v, h => by
    by_cases hk : k = p.1
    · have : (k == p.1) = true := (ba_beq _ _).2 hk
      simp only [findAt, this, if_true, Option.some.injEq, Prod.mk.injEq] at h
      refine ⟨0, by omega, by simp [hk, ← h.2], fun v' => by simp [putL, this]⟩
    · simp only [findAt, ba_bne hk] at h
      obtain ⟨m, h1, h2, h3⟩ := findAt_spec (i := i + 1) h
      refine ⟨m + 1, by omega, by simpa using h2, fun v' => ?_⟩
      simp only [putL, ba_bne hk]
      rw [if_neg (by simp), h3]; rfl
theorem putL_of_none {k : ByteArray} {v' : Value} : ∀ {l : List (ByteArray × Value)} {i : Nat}, findAt k l i = none → putL l k v' = l ++ [(k, v')]
  | [], _, _ => rfl
  | p :: r, i, h => by
    by_cases hk : (k == p.1) = true
    · simp [findAt, hk] at h
    · simp only [Bool.not_eq_true] at hk
      simp only [findAt, hk] at h
      simp only [putL, hk, List.cons_append]
      rw [if_neg (by simp), putL_of_none (by simpa using h)]

section
variable {P : Program} {T K E : TypeId}
theorem run_put (hT : P.underlying T = some (.map K E)) (hK : P.underlying K = some .string) {w : World} {b : Nat} {l : List (ByteArray × Value)} (h : MapAt w b l) (k : ByteArray) (v : Value) :
    (Instr.mapUpdate T (.map (some b)) (.string k) v).run P w = .ok () (putW w b k v) := by
  obtain ⟨es, clock, hb, hl⟩ := h
  have hf := findNow_str k es.toList l 0 hl
  cases hq : findAt k l 0 with
  | none =>
    rw [hq] at hf
    simp [Instr.mapUpdate, run_underlying hT, MapKept.run_getObj_map hb, run_checkKey_str hK, MapKept.run_findKey hK hf, MapKept.run_setObj_map _ hb, Result.andThen, putW, putObj, hb, hf, setO]
  | some x =>
    obtain ⟨i, v0⟩ := x
    rw [hq] at hf
    obtain ⟨m, rfl, h2, _⟩ := findAt_spec hq
    have hkey : (es[0 + m]?).map (·.key) = some (.string k) := by
      have := congrArg (fun (z : List (Value × Value)) => (z[m]?).map (·.1)) hl
      simp only [List.getElem?_map, h2, Option.map_map] at this
      simpa using this
    have hsb : Instr.sameBits 10000 (.string k) (.string k) = true := by
      have : (k == k) = true := (ba_beq _ _).2 rfl
      rw [Instr.sameBits]; exact this
    simp only [Nat.zero_add] at hf hkey
    simp [Instr.mapUpdate, run_underlying hT, MapKept.run_getObj_map hb, run_checkKey_str hK, MapKept.run_findKey hK hf, MapKept.run_setObj_map _ hb, Result.andThen, putW, putObj, hb, hf, setO, hkey, Instr.keyThatStays, hsb]
end
theorem putW_size (w : World) (b : Nat) (k : ByteArray) (v : Value) : (putW w b k v).heap.size = w.heap.size := setO_size _ _ _
theorem MapAt.put {w : World} {b : Nat} {l : List (ByteArray × Value)} (h : MapAt w b l) (k : ByteArray) (v : Value) : MapAt (putW w b k v) b (putL l k v) := by
  obtain ⟨es, clock, hb, hl⟩ := h
  have hlt := (Array.getElem?_eq_some_iff.1 hb).1
  have hf := findNow_str k es.toList l 0 hl
  cases hq : findAt k l 0 with
  | none =>
    rw [hq] at hf
    refine ⟨es.push { key := .string k, val := v, born := clock }, clock + 1, (by
      have e : putW w b k v = setO w b (.map (es.push { key := .string k, val := v, born := clock }) (clock + 1)) := by unfold putW; rw [hb]; simp only [putObj, hf]
      rw [e]; simp [setO, hlt]), ?_⟩
    simp [hl, putL_of_none hq]
  | some x =>
    obtain ⟨i, v0⟩ := x
    rw [hq] at hf
    obtain ⟨m, rfl, h2, h3⟩ := findAt_spec hq
    simp only [Nat.zero_add] at hf
    refine ⟨es.modify m fun e => { e with key := .string k, val := v }, clock, (by
      have e : putW w b k v = setO w b (.map (es.modify m fun e => { e with key := .string k, val := v }) clock) := by unfold putW; rw [hb]; simp only [putObj, hf]
      rw [e]; simp [setO, hlt]), ?_⟩
    rw [h3]
    apply List.ext_getElem?
    intro n
    have hn := congrArg (fun (z : List (Value × Value)) => z[n]?) hl
    simp only [List.getElem?_map] at hn
    have hlen : es.size = l.length := by simpa using congrArg List.length hl
    simp only [List.getElem?_map, Array.toList_modify, List.getElem?_modify, List.getElem?_set]
    by_cases e : m = n
    · subst e
      have hml : m < l.length := (List.getElem?_eq_some_iff.1 h2).1
      simp [hml, hlen]
    · simp [e] at hn ⊢
      exact hn
theorem Ch.put {S : List Nat} {a w : World} (h : Ch S a w) {b : Nat} (hp : b ∈ S ∨ a.heap.size ≤ b) (k : ByteArray) (v : Value) : Ch S a (putW w b k v) := h.setO hp _
end Go.Proofs.YtfnncdngfggcjaaGreatDoor

namespace Go.Proofs.YtfnncdngfggcjaaGreatDoor
open Go.RowKit

theorem info9 : (Tryz.prog.info? 9).map (fun i => (i.zero, i.size, i.bytes)) = some (some (.string ⟨#[]⟩), 1, 16) := by kernel_rfl
theorem info3 : (Tryz.prog.info? 3).map (fun i => (i.zero, i.size, i.bytes)) = some (some (.int .i64 0), 1, 8) := by kernel_rfl
theorem info62 : (Tryz.prog.info? 62).map (fun i => (i.zero, i.size, i.bytes)) = some (some (.pointer none), 1, 8) := by kernel_rfl

theorem zero74 (w : World) : (zeroValue 74).run Tryz.prog w = .ok (.slice none 0 0) w := by kernel_rfl

set_option maxRecDepth 100000 in
set_option maxHeartbeats 2000000 in
/-- What NewSection has done where there was no section of the name. -/
structure NewSec (w w' : World) (fb mb : Nat) (sh : Bool) (σ : List SecA) (dsv slv siv : Value) (name : ByteArray) (sb km kl kh gb cap g1 cap1 g2 cap2 n : Nat) : Prop where
  file : Blk w' fb 102 (fileCells sh dsv (.slice (some ⟨g1, 0, none⟩) ((strs (List.map (fun x => x.name) σ)).length + 1) cap1) (.slice (some ⟨g2, 0, none⟩) ((σ.map fun _ => Value.int .i64 0).length + 1) cap2) mb)
  sl : Row w' 9 (.slice (some ⟨g1, 0, none⟩) ((strs (List.map (fun x => x.name) σ)).length + 1) cap1) (strs (σ.map (·.name)) ++ [.string name])
  si : Row w' 3 (.slice (some ⟨g2, 0, none⟩) ((σ.map fun _ => Value.int .i64 0).length + 1) cap2) ((σ.map fun _ => .int .i64 0) ++ [.int .i64 0])
  mp : MapAt w' mb ((σ.map fun s => (s.name, .slice (some ⟨s.gb, 0, none⟩) 1 s.gcap)) ++ [(name, .slice (some ⟨gb, 0, none⟩) 1 cap)])
  grp : Row w' 62 (.slice (some ⟨gb, 0, none⟩) 1 cap) [ptr sb]
  sec : Blk w' sb 96 (secCells fb es name km (.slice (some ⟨kl, 0, none⟩) 0 10) kh)
  hkm : MapAt w' km []
  hkh : MapAt w' kh []
  hkl : Row w' 9 (.slice (some ⟨kl, 0, none⟩) 0 10) []
  ne : km ≠ kh
  n0 : w.heap.size ≤ n
  lt1 : g1 < n
  lt2 : g2 < n
  own1 : slv.ownBlock = some g1 ∨ w.heap.size ≤ g1
  own2 : siv.ownBlock = some g2 ∨ w.heap.size ≤ g2
  nsb : n ≤ sb
  nkm : n ≤ km
  nkl : n ≤ kl
  nkh : n ≤ kh
  ngb : n ≤ gb
  ch : Ch (mb :: fb :: (slv.ownBlock.toList ++ siv.ownBlock.toList)) w w'

theorem MapAt.neRow {w : World} {b : Nat} {l : List (ByteArray × Value)} (h : MapAt w b l) {T : TypeId} {v : Value} {xs : List Value} (hr : Row w T v xs) {g : Nat} (hg : v.ownBlock = some g) : g ≠ b := by
  obtain ⟨c2, k2, _, b2, _⟩ := hr.blk hg
  exact fun e => h.ne b2 e.symm
set_option maxRecDepth 100000 in
set_option maxHeartbeats 4000000 in
theorem newSection_new (fb mb : Nat) (B : Nat) (own : Nat → Nat) (sh : Bool) (σ : List SecA) (dsv slv siv : Value) (name : ByteArray) (w : World) (hF : FileOK B own w fb sh σ dsv slv siv mb) (hn : 0 < name.size)
    (hno : name ∉ σ.map (·.name)) (hlen : σ.length ≤ 100) :
    Calls Tryz.prog 78 #[ptr fb, .string name] w fun e w' => ∃ sb km kl kh gb cap g1 cap1 g2 cap2 n, e = .returned (.tuple #[ptr sb, .nilIface]) ∧ NewSec w w' fb mb sh σ dsv slv siv name sb km kl kh gb cap g1 cap1 g2 cap2 n := by
  have hc := hF.file.cells
  have hf := hF.file.frees
  simp only [fileCells] at hc
  have HF := Lib.hid hF
  have hn0 : ((name.size : Int) == 0) = false := beq_eq_false_iff_ne.2 (by omega)
  have hlt := hF.file.lt
  clear hF
  unfold ptr
  go_enter Tryz.func78, Tryz.ntmps78
  go_wp2_with (first
    | (go_at_call 102; refine (inSlice_any name slv _ false (by simp [hno]) _ HF.out.sl (by simp; omega)).mono ?_; rintro e w' ⟨rfl, rfl⟩)
    | (at_builtin; refine wpList_append_row rfl (.tmp 55) (.tmp 57) 26 rfl 9 _ 16 Tryz.underlying26 info9 rfl slv _ rfl (HF.out.sl.alloc _) ⟨w.heap.size, 0, none⟩ 1 (.string name) rfl (by simp) rfl ?_ (by omega) ?_))
  · simp only [strs, List.length_map]; omega
  intro g1 cap1 w1 hr1 hch1 hg1 hg1l
  have hB1 := (HF.out.file.alloc (.cells #[.string name] 9)).ch hch1 (fun hm => HF.out.sl.ne HF.out.file (by decide) _ (by simpa using hm) rfl)
  have hc1 := hB1.cells
  have hf1 := hB1.frees
  simp only [fileCells] at hc1
  have HB1 := Lib.hid hB1
  have HR1 := Lib.hid hr1
  have HC1 := Lib.hid hch1
  clear hB1 hr1 hch1 hc hf
  go_wp2
  have hfg : ∀ g, slv.ownBlock = some g → g ≠ fb := fun g hg => HF.out.sl.ne HF.out.file (by decide) g hg
  have hsg : ∀ g, siv.ownBlock = some g → g ≠ fb := fun g hg => HF.out.si.ne HF.out.file (by decide) g hg
  have hg1fb : g1 ≠ fb := by
    rcases hg1 with h | h
    · exact hfg _ h
    · rw [h]; simp; omega
  have HS1 : Hid (∀ g, siv.ownBlock = some g → g ∉ slv.ownBlock.toList) := fun g hg hm => by
    obtain ⟨c1, k1, _, b1, _⟩ := HF.out.si.blk hg
    obtain ⟨c2, k2, _, b2, _⟩ := HF.out.sl.blk (g := g) (by simpa using hm)
    exact b1.ne b2 (by decide) rfl
  have HM1 : Hid (mb ∉ slv.ownBlock.toList) := fun hm => by
    obtain ⟨c2, k2, _, b2, _⟩ := HF.out.sl.blk (g := mb) (by simpa using hm)
    exact HF.out.mp.ne b2 rfl
  refine wp_gen (fun W => Hid (Blk W fb 102 (fileCells sh dsv (.slice (some ⟨g1, 0, none⟩) ((strs (List.map (fun x => x.name) σ)).length + 1) cap1) siv mb)) ∧
      Hid (Row W 9 (.slice (some ⟨g1, 0, none⟩) ((strs (List.map (fun x => x.name) σ)).length + 1) cap1) (strs (σ.map (·.name)) ++ [.string name])) ∧
      Hid (Row W 3 siv (σ.map fun _ => .int .i64 0)) ∧ Hid (MapAt W mb (σ.map fun s => (s.name, .slice (some ⟨s.gb, 0, none⟩) 1 s.gcap))) ∧
      Hid (Ch (fb :: slv.ownBlock.toList) w W) ∧ Hid (g1 < W.heap.size)) ?_ ?_
  · refine ⟨HB1.out.set 25 _, HR1.out.setCell (fun g hg => ?_) _, ((HF.out.si.alloc _).ch HC1.out HS1.out).setCell (fun g hg => hsg g hg) _, ((HF.out.mp.alloc _).ch HC1.out HM1.out).setCell (HF.out.mp.ne HF.out.file) _, ?_, ?_⟩
    · cases hg; exact hg1fb
    · exact Ch.set (Ch.trans (Ch.alloc (Ch.refl _ _) _) HC1.out (fun x hx => .inl (List.mem_cons_of_mem _ hx))) (.inl (by simp)) _
    · show _ < (World.setCell _ _ _).heap.size
      rw [World.size_setCell]; exact hg1l
  rintro W ⟨HB2, HR2, HS2, HM2, HC2, HG2⟩
  clear HB1 HR1 HC1 hc1 hf1 HS1 HM1 hg1l
  have hc := HB2.out.cells
  have hf := HB2.out.frees
  have hsz := HC2.out.size
  simp only [fileCells] at hc
  have hlk : ∀ V : World, V.heap = W.heap → (Instr.lookup 99 (.map (some mb)) (.string name) false).run Tryz.prog V = .ok (.slice none 0 0) V := fun V hV =>
    run_look_none (T := 99) (K := 9) (E := 74) rfl rfl (HM2.out.same (by rw [hV])) name zero74 (lookL_none (by rw [List.map_map]; exact hno))
  have hlk1 := hlk W.drew rfl
  have hlk0 := hlk W rfl
  have HNO := Lib.hid hno
  clear hno hlk
  have hsA : (W.drew.alloc (.cells #[.int .i64 0] 3)).cell? ⟨fb, 26, none⟩ = some siv := (HB2.out.drew.alloc _).cells 26
  have hltW := HB2.out.lt
  have hneW : (fb == W.heap.size) = false := beq_eq_false_iff_ne.2 (by omega)
  have hneW2 : ¬ fb = W.heap.size := by omega
  have hsA2 : (W.alloc (.cells #[.int .i64 0] 3)).cell? ⟨fb, 26, none⟩ = some siv := (HB2.out.alloc _).cells 26
  go_region_law
    ((refine step_append_row rfl (.tmp 65) (.tmp 73) 98 rfl 3 _ 8 Tryz.underlying98 info3 rfl siv _ rfl (HS2.out.drew.alloc _) ⟨W.heap.size, 0, none⟩ 1 (.int .i64 0) rfl (by simp) rfl (by simp; omega) (by omega) ?_; intro g2 cap2 w2 h1 h2 h3 h4;
      have hB3 := (HB2.out.drew.alloc (.cells #[.int .i64 0] 3)).ch h2 (fun hm => by simp at hm; exact hsg _ hm rfl); have hf3 := hB3.frees; have hc3 : w2.cell? ⟨fb, 26, none⟩ = some siv := hB3.cells 26; have HB3 := Lib.hid hB3; clear hB3))
  all_goals
    have hg2fb : g2 ≠ fb := by
      rcases h3 with h | h
      · exact hsg _ h
      · rw [h]; simp; omega
    have hown2 : siv.ownBlock = some g2 ∨ w.heap.size ≤ g2 := by
      rcases h3 with h | h
      · exact .inl h
      · right; rw [h]; simp; omega
    have hown1 : slv.ownBlock = some g1 ∨ w.heap.size ≤ g1 := by
      rcases hg1 with h | h
      · exact .inl h
      · right; rw [h]; simp
    apply ‹∀ (a : Act) (w : World), Code.wp _ _ _ a w → _›
    refine wp_gen (fun V => Hid (Blk V fb 102 (fileCells sh dsv (.slice (some ⟨g1, 0, none⟩) ((strs (List.map (fun x => x.name) σ)).length + 1) cap1) (.slice (some ⟨g2, 0, none⟩) ((σ.map fun _ => Value.int .i64 0).length + 1) cap2) mb)) ∧
      Hid (Row V 9 (.slice (some ⟨g1, 0, none⟩) ((strs (List.map (fun x => x.name) σ)).length + 1) cap1) (strs (σ.map (·.name)) ++ [.string name])) ∧
      Hid (Row V 3 (.slice (some ⟨g2, 0, none⟩) ((σ.map fun _ => Value.int .i64 0).length + 1) cap2) ((σ.map fun _ => .int .i64 0) ++ [.int .i64 0])) ∧ Hid (MapAt V mb (σ.map fun s => (s.name, .slice (some ⟨s.gb, 0, none⟩) 1 s.gcap))) ∧
      Hid (Ch (fb :: (slv.ownBlock.toList ++ siv.ownBlock.toList)) w V) ∧ Hid (g1 < V.heap.size) ∧ Hid (g2 < V.heap.size)) ?_ ?_
    · have hmS : mb ∉ siv.ownBlock.toList := fun hm => by
        obtain ⟨c2, k2, _, b2, _⟩ := HF.out.si.blk (g := mb) (by simpa using hm)
        exact HF.out.mp.ne b2 rfl
      have hg1S : ∀ g, (Value.slice (some ⟨g1, 0, none⟩) ((strs (List.map (fun x => x.name) σ)).length + 1) cap1).ownBlock = some g → g ∉ siv.ownBlock.toList := fun g hg hm => by
        obtain ⟨c1, k1, _, b1, _⟩ := HS2.out.blk (g := g) (by simpa using hm)
        obtain ⟨c2, k2, _, b2, _⟩ := HR2.out.blk hg
        exact b1.ne b2 (by decide) rfl
      have hsz2 := h2.size
      simp only [World.size_alloc, World.size_drew] at hsz2
      have hB4 := HB3.out.set 26 (.slice (some ⟨g2, 0, none⟩) ((σ.map fun _ => Value.int .i64 0).length + 1) cap2)
      simp only [List.length_map] at hB4 h1 ⊢
      refine ⟨hB4, ((HR2.out.drew.alloc _).ch h2 hg1S).setCell (fun g hg => ?_) _, h1.setCell (fun g hg => ?_) _, ((HM2.out.drew.alloc _).ch h2 hmS).setCell (HF.out.mp.ne HF.out.file) _, ?_, ?_, ?_⟩
      · cases hg; exact hg1fb
      · cases hg; exact hg2fb
      · exact Ch.set (Ch.trans (Ch.alloc (Ch.drew (Ch.mono HC2.out (fun x hx => .inl (by simp at hx ⊢; rcases hx with h | h <;> simp [h])))) _) h2 (fun x hx => .inl (by simp at hx ⊢; simp [hx]))) (.inl (by simp)) _
      · show _ < (World.setCell _ _ _).heap.size
        rw [World.size_setCell]; have := HG2.out; omega
      · show _ < (World.setCell _ _ _).heap.size
        rw [World.size_setCell]; exact h4
    rintro V ⟨HB5, HR5, HS5, HM5, HC5, HG5, HG6⟩
    clear HB3 hc3 hf3 hc hf hlk0 hlk1 hsA HB2 HR2 HS2 HM2 HC2 HG2 h1 h2 h4
    have hc := HB5.out.cells
    have hf := HB5.out.frees
    simp only [fileCells] at hc
    have hno' := HNO.out
    go_wp2_with (go_at_call 103; refine (newSection_any fb name _).mono ?_; rintro e V1 ⟨sb, km, kl, kh, rfl, hsb, hkm, hkl, hkh, hkk, hsec, hmk, hmh, hrk, hch⟩)
    have HSEC := Lib.hid hsec
    have HMK := Lib.hid hmk
    have HMH := Lib.hid hmh
    have HRK := Lib.hid hrk
    have HCH := Lib.hid hch
    have HB6 := Lib.hid (HB5.out.ch hch (by simp))
    have HM6 := Lib.hid (HM5.out.ch hch (by simp))
    clear hsec hmk hmh hrk hch hc hf
    have hc := HB6.out.cells
    have hf := HB6.out.frees
    simp only [fileCells] at hc
    have hlt6 := HB6.out.lt
    have hlkA : (Instr.lookup 99 (.map (some mb)) (.string name) false).run Tryz.prog V1.drew = .ok (.slice none 0 0) V1.drew :=
      run_look_none (T := 99) (K := 9) (E := 74) rfl rfl HM6.out.drew name zero74 (lookL_none (by rw [List.map_map]; exact hno'))
    have hlkB : ∀ u, (Instr.lookup 99 (.map (some mb)) (.string name) false).run Tryz.prog (V1.drew.alloc u) = .ok (.slice none 0 0) (V1.drew.alloc u) := fun u =>
      run_look_none (T := 99) (K := 9) (E := 74) rfl rfl (HM6.out.drew.alloc u) name zero74 (lookL_none (by rw [List.map_map]; exact hno'))
    have hlkC : ∀ u, (Instr.lookup 99 (.map (some mb)) (.string name) false).run Tryz.prog (V1.alloc u).drew = .ok (.slice none 0 0) (V1.alloc u).drew := hlkB
    clear hno'
    go_region_held3 (fun w' => w'.cell? ⟨fb, 27, none⟩ = some (.map (some mb)))
      (first
        | exact (HB6.out.drew.cells 27)
        | exact ((HB6.out.drew.alloc _).cells 27)
        | exact (((HB6.out.drew.alloc _).ch h2 (by simp)).cells 27)
        | exact ((HB7.out.ch (Ch.put (Ch.refl [mb] _) (.inl (by simp)) _ _) (by simp; exact fun e => HM6.out.ne HB6.out e.symm)).cells 27))
      ((refine step_append_row rfl (.tmp 90) (.tmp 92) 74 rfl 62 (.pointer none) 8 Tryz.underlying74 info62 rfl (.slice none 0 0) [] rfl (Row.nil _ _) ⟨V1.heap.size, 0, none⟩ 1 (.pointer (some ⟨sb, 0, none⟩)) rfl (by simp) rfl (by simp) (by omega) ?_; intro g3 cap3 w5 h1 h2 h3 h4;
        replace h2 : Ch [] (V1.drew.alloc (.cells #[.pointer (some ⟨sb, 0, none⟩)] 62)) w5 := h2;
        have HB7 := Lib.hid ((HB6.out.drew.alloc (.cells #[.pointer (some ⟨sb, 0, none⟩)] 62)).ch h2 (by simp));
        have HM7 := Lib.hid ((HM6.out.drew.alloc (.cells #[.pointer (some ⟨sb, 0, none⟩)] 62)).ch h2 (by simp));
        have hmu := fun v => run_put (P := Tryz.prog) (T := 99) (K := 9) (E := 74) rfl rfl HM7.out name v))
    all_goals
      apply ‹∀ (a : Act) (w : World), Code.wp _ _ _ a w → _›
      have hHC8 : Ch [mb] V1 (putW w5 mb name (.slice (some ⟨g3, 0, none⟩) 1 cap3)) := Ch.put (Ch.trans (Ch.alloc (Ch.drew (Ch.refl [mb] V1)) _) h2 (by simp)) (.inl (by simp)) _ _
      have HC8 := Lib.hid hHC8
      have HC9 : Hid (Ch [mb] V (putW w5 mb name (.slice (some ⟨g3, 0, none⟩) 1 cap3))) := (HCH.out.mono (by simp)).trans hHC8 (by simp)
      have HHM7 := Lib.hid (HM7.out.put name (.slice (some ⟨g3, 0, none⟩) 1 cap3))
      have hmlt := HM5.out.lt
      have hvv := HCH.out.size
      clear hHC8
      refine wp_gen (fun Z => Hid (Z = putW w5 mb name (.slice (some ⟨g3, 0, none⟩) 1 cap3))) rfl ?_
      intro Z HZ
      go_wp2
      refine bodyPost_ret (results_tmp2 rfl _ _ _) rfl ?_
      obtain rfl := HZ.out
      refine ⟨sb, km, kl, kh, g3, cap3, g1, cap1, g2, cap2, V.heap.size, rfl, ?_⟩
      exact {
        file := HB5.out.ch HC9.out (by simp; exact fun e => HM6.out.ne HB6.out e.symm)
        sl := HR5.out.ch HC9.out (fun g hg => by simp; exact HM5.out.neRow HR5.out hg)
        si := HS5.out.ch HC9.out (fun g hg => by simp; exact HM5.out.neRow HS5.out hg)
        mp := by
          have := HHM7.out
          rw [putL_none (by rw [List.map_map]; exact HNO.out)] at this
          exact this
        grp := Row.ch (w := w5) h1 (Ch.put (Ch.refl [mb] _) (.inl (by simp)) _ _) (fun g hg => by simp; exact HM7.out.neRow h1 hg)
        sec := HSEC.out.ch HC8.out (by simp; omega)
        hkm := HMK.out.ch HC8.out (by simp; omega)
        hkh := HMH.out.ch HC8.out (by simp; omega)
        hkl := HRK.out.ch HC8.out (fun g hg => by cases hg; simp; omega)
        ne := hkk
        n0 := HC5.out.size
        lt1 := HG5.out
        lt2 := HG6.out
        own1 := hown1
        own2 := hown2
        nsb := hsb
        nkm := hkm
        nkl := hkl
        nkh := hkh
        ngb := by
          rcases h3 with h | h
          · cases h
          · rw [h]; simp; omega
        ch := (HC5.out.mono (fun x hx => .inl (List.mem_cons_of_mem _ hx))).trans HC9.out (by simp) }
end Go.Proofs.YtfnncdngfggcjaaGreatDoor

namespace Go.Proofs.YtfnncdngfggcjaaGreatDoor
open Go.RowKit

theorem lookL_append {l : List (ByteArray × Value)} {k : ByteArray} {v : Value} (h : k ∉ l.map (·.1)) : lookL (l ++ [(k, v)]) k = some v := by
  induction l with
  | nil => rw [List.nil_append, lookL_cons]; simp
  | cons p r ih =>
    simp only [List.map_cons, List.mem_cons, not_or] at h
    rw [List.cons_append, lookL_cons, if_neg h.1]
    exact ih h.2

/-- What NewKey has done where there was no key of the name. -/
structure NewKeyP (w w' : World) (fb sb : Nat) (sname : ByteArray) (km kh : Nat) (klv : Value) (l : List (ByteArray × Value)) (name val : ByteArray) (kb g cap : Nat) : Prop where
  sec : Blk w' sb 96 (secCells fb es sname km (.slice (some ⟨g, 0, none⟩) ((strs (l.map (·.1))).length + 1) cap) kh)
  hkm : MapAt w' km (l ++ [(name, ptr kb)])
  hkh : ∃ lh, MapAt w' kh lh
  hkl : Row w' 9 (.slice (some ⟨g, 0, none⟩) ((strs (l.map (·.1))).length + 1) cap) (strs (l.map (·.1)) ++ [.string name])
  own : klv.ownBlock = some g ∨ w.heap.size ≤ g
  key : Blk w' kb 107 (keyCells sb es name val false false (.slice none 0 0))
  nkb : w.heap.size ≤ kb
  ch : Ch (km :: kh :: sb :: klv.ownBlock.toList) w w'

set_option maxRecDepth 100000 in
set_option maxHeartbeats 4000000 in
theorem newKey_new (fb sb : Nat) (sh : Bool) (dsv slv siv : Value) (mb : Nat) (sname : ByteArray) (km kh : Nat) (klv : Value) (l lh : List (ByteArray × Value)) (name val : ByteArray) (w : World)
    (hF : Blk w fb 102 (fileCells sh dsv slv siv mb)) (hS : Blk w sb 96 (secCells fb es sname km klv kh)) (hkm : MapAt w km l) (hkh : MapAt w kh lh) (hkl : Row w 9 klv (strs (l.map (·.1)))) (hne : km ≠ kh)
    (hn : 0 < name.size) (hno : name ∉ l.map (·.1)) (hlen : l.length ≤ 1000) :
    Calls Tryz.prog 79 #[ptr sb, .string name, .string val] w fun e w' => ∃ kb g cap, e = .returned (.tuple #[ptr kb, .nilIface]) ∧ NewKeyP w w' fb sb sname km kh klv l name val kb g cap := by
  have hcf := hF.cells
  have hff := hF.frees
  have hcs := hS.cells
  have hfs := hS.frees
  simp only [fileCells] at hcf
  simp only [secCells] at hcs
  have HF := Lib.hid hF
  have HS := Lib.hid hS
  have HKM := Lib.hid hkm
  have HKH := Lib.hid hkh
  have HKL := Lib.hid hkl
  have HNO := Lib.hid hno
  have HNE := Lib.hid hne
  have hn0 : ((name.size : Int) == 0) = false := beq_eq_false_iff_ne.2 (by omega)
  have hltf := hF.lt
  have hlts := hS.lt
  have hlen2 : (strs (l.map (·.1))).length + 1 ≤ 1000000 := by simp only [strs, List.length_map]; omega
  clear hF hS hkm hkh hkl hno hne
  unfold ptr
  go_enter Tryz.func79, Tryz.ntmps79
  go_wp2_with (first
    | (go_at_call 102; refine (inSlice_any name klv _ false (by simp only [Bool.false_eq_true, false_iff]; exact HNO.out) _ HKL.out (by simp only [List.length_map]; omega)).mono ?_; rintro e w' ⟨rfl, rfl⟩)
    | (at_builtin; refine wpList_append_row rfl (.tmp 83) (.tmp 85) 26 rfl 9 _ 16 Tryz.underlying26 info9 rfl klv _ rfl (HKL.out.alloc _) ⟨w.heap.size, 0, none⟩ 1 (.string name) rfl (by simp) rfl hlen2 (by omega) ?_))
  intro g1 cap1 w1 hr1 hch1 hg1 hg1l
  have hnS : sb ∉ klv.ownBlock.toList := fun hm => HKL.out.ne HS.out (by decide) _ (by simpa using hm) rfl
  have hnM : km ∉ klv.ownBlock.toList := fun hm => HKM.out.neRow HKL.out (by simpa using hm) rfl
  have hnH : kh ∉ klv.ownBlock.toList := fun hm => HKH.out.neRow HKL.out (by simpa using hm) rfl
  have HB1 := Lib.hid ((HS.out.alloc (.cells #[.string name] 9)).ch hch1 hnS)
  have hc1 := HB1.out.cells
  have hf1 := HB1.out.frees
  simp only [secCells] at hc1
  have HR1 := Lib.hid hr1
  have HC1 := Lib.hid hch1
  clear hr1 hch1 hcs hfs hcf hff
  go_wp2
  have hg1sb : g1 ≠ sb := HR1.out.ne HB1.out (by decide) _ rfl
  have hown : klv.ownBlock = some g1 ∨ w.heap.size ≤ g1 := by
    rcases hg1 with h | h
    · exact .inl h
    · right; rw [h]; simp
  refine wp_gen (fun W => Hid (Blk W sb 96 (secCells fb es sname km (.slice (some ⟨g1, 0, none⟩) ((strs (l.map (·.1))).length + 1) cap1) kh)) ∧
      Hid (Row W 9 (.slice (some ⟨g1, 0, none⟩) ((strs (l.map (·.1))).length + 1) cap1) (strs (l.map (·.1)) ++ [.string name])) ∧
      Hid (MapAt W km l) ∧ Hid (MapAt W kh lh) ∧ Hid (Ch (sb :: klv.ownBlock.toList) w W)) ?_ ?_
  · refine ⟨HB1.out.set 4 _, HR1.out.setCell (fun g hg => ?_) _, ((HKM.out.alloc _).ch HC1.out hnM).setCell (HKM.out.ne HS.out) _, ((HKH.out.alloc _).ch HC1.out hnH).setCell (HKH.out.ne HS.out) _, ?_⟩
    · cases hg; exact hg1sb
    · exact Ch.set (Ch.trans (Ch.alloc (Ch.refl _ _) _) HC1.out (fun x hx => .inl (List.mem_cons_of_mem _ hx))) (.inl (by simp)) _
  rintro W ⟨HB2, HR2, HM2, HH2, HC2⟩
  clear HB1 HR1 HC1 hc1 hf1 hg1l
  have hc := HB2.out.cells
  simp only [secCells] at hc
  have hlt2 := HB2.out.lt
  have hkmlt := HM2.out.lt
  have hkhlt := HH2.out.lt
  have hsz := HC2.out.size
  have HB3 := Lib.hid (HB2.out.drew.alloc (.cells (keyCells sb es name val false false (.slice none 0 0)).toArray 107))
  have HM3 := Lib.hid (HM2.out.drew.alloc (.cells (keyCells sb es name val false false (.slice none 0 0)).toArray 107))
  have hmu : (Instr.mapUpdate 93 (.map (some km)) (.string name) (.pointer (some ⟨W.heap.size, 0, none⟩))).run Tryz.prog (W.drew.alloc (.cells (keyCells sb es name val false false (.slice none 0 0)).toArray 107)) =
      .ok () (putW (W.drew.alloc (.cells (keyCells sb es name val false false (.slice none 0 0)).toArray 107)) km name (.pointer (some ⟨W.heap.size, 0, none⟩))) := run_put (P := Tryz.prog) (T := 93) (K := 9) (E := 70) rfl rfl HM3.out name _
  have hmu2 : (Instr.mapUpdate 93 (.map (some km)) (.string name) (.pointer (some ⟨W.heap.size, 0, none⟩))).run Tryz.prog (W.alloc (.cells (keyCells sb es name val false false (.slice none 0 0)).toArray 107)).drew =
      .ok () (putW (W.alloc (.cells (keyCells sb es name val false false (.slice none 0 0)).toArray 107)).drew km name (.pointer (some ⟨W.heap.size, 0, none⟩))) := hmu
  have hcm : Ch [km] W (putW (W.drew.alloc (.cells (keyCells sb es name val false false (.slice none 0 0)).toArray 107)) km name (.pointer (some ⟨W.heap.size, 0, none⟩))) := Ch.put (((Ch.refl [km] W).drew).alloc _) (.inl (by simp)) _ _
  have HCM := Lib.hid hcm
  clear hcm
  have hsbkm : sb ≠ km := fun e => HM2.out.ne HB2.out e.symm
  go_region_held3 (fun w' => w'.cell? ⟨sb, 3, none⟩ = some (.map (some km)))
    (first
      | exact (HB2.out.drew.cells 3)
      | exact (HB3.out.cells 3)
      | exact ((HB2.out.ch HCM.out (by simpa using hsbkm)).cells 3))
    ((go_at_call 105; refine (newKey_any sb name val _).mono ?_; rintro e w' ⟨rfl, rfl⟩))
  apply ‹∀ (a : Act) (w : World), Code.wp _ _ _ a w → _›
  refine wp_gen (fun V => Hid (Blk V sb 96 (secCells fb es sname km (.slice (some ⟨g1, 0, none⟩) ((strs (l.map (·.1))).length + 1) cap1) kh)) ∧
      Hid (Row V 9 (.slice (some ⟨g1, 0, none⟩) ((strs (l.map (·.1))).length + 1) cap1) (strs (l.map (·.1)) ++ [.string name])) ∧
      Hid (MapAt V km (l ++ [(name, .pointer (some ⟨W.heap.size, 0, none⟩))])) ∧ Hid (MapAt V kh lh) ∧ Hid (Blk V W.heap.size 107 (keyCells sb es name val false false (.slice none 0 0))) ∧ Hid (Ch (km :: sb :: klv.ownBlock.toList) w V)) ?_ ?_
  · refine ⟨HB2.out.ch HCM.out (by simpa using hsbkm), HR2.out.ch HCM.out (fun g hg => by simp; exact HM2.out.neRow HR2.out hg), ?_, HH2.out.ch HCM.out (by simpa using fun e => HNE.out e.symm), ?_, ?_⟩
    · have := HM3.out.put name (.pointer (some ⟨W.heap.size, 0, none⟩))
      rw [putL_none HNO.out] at this
      exact this
    · have h1 := Blk.new W.drew 107 (keyCells sb es name val false false (.slice none 0 0))
      exact h1.ch (Ch.put (Ch.refl [km] _) (.inl (by simp)) _ _) (by simp; omega)
    · exact (HC2.out.mono (fun x hx => .inl (List.mem_cons_of_mem _ hx))).trans HCM.out (by simp)
  rintro V ⟨HB4, HR4, HM4, HH4, HK4, HC4⟩
  clear hc hmu hmu2 HB3 HM3 HCM HB2 HR2 HM2 HH2 hsbkm
  have hc := HB4.out.cells
  simp only [secCells] at hc
  have hmu : (Instr.mapUpdate 94 (.map (some kh)) (.string name) (.string val)).run Tryz.prog V = .ok () (putW V kh name (.string val)) := run_put (P := Tryz.prog) (T := 94) (K := 9) (E := 9) rfl rfl HH4.out name _
  have HCV : Hid (Ch [kh] V (putW V kh name (.string val))) := Ch.put (Ch.refl [kh] V) (.inl (by simp)) _ _
  have HB5 := Lib.hid (HB4.out.ch HCV.out (by simpa using fun e => HH4.out.ne HB4.out e.symm))
  have HM5 := Lib.hid (HM4.out.ch HCV.out (by simpa using HNE.out))
  have hc2 := HB5.out.cells
  simp only [secCells] at hc2
  have hlk : (Instr.lookup 93 (.map (some km)) (.string name) false).run Tryz.prog (putW V kh name (.string val)) = .ok (.pointer (some ⟨W.heap.size, 0, none⟩)) (putW V kh name (.string val)) :=
    run_look (T := 93) (K := 9) (E := 70) rfl rfl HM5.out name (lookL_append HNO.out)
  go_wp2
  refine bodyPost_ret (results_tmp2 rfl _ _ _) rfl ?_
  have hR5 := HR4.out.ch HCV.out (fun g hg => by simp; exact HH4.out.neRow HR4.out hg)
  refine ⟨W.heap.size, rfl, g1, cap1, ?_⟩
  exact {
    sec := HB5.out
    hkm := HM5.out
    hkh := ⟨_, HH4.out.put name (.string val)⟩
    hkl := hR5
    own := hown
    key := HK4.out.ch HCV.out (by simp; exact fun e => HH4.out.ne HK4.out e.symm)
    nkb := hsz
    ch := (HC4.out.mono (fun x hx => .inl (by simp at hx ⊢; rcases hx with h | h | h <;> simp [h]))).trans HCV.out (by simp) }
end Go.Proofs.YtfnncdngfggcjaaGreatDoor

namespace Go.Proofs.YtfnncdngfggcjaaGreatDoor
open Go.RowKit

theorem FileOK.ge {B : Nat} {own : Nat → Nat} {w : World} {fb : Nat} {sh : Bool} {σ : List SecA} {dsv slv siv : Value} {mb : Nat} (h : FileOK B own w fb sh σ dsv slv siv mb) {b : Nat} (hb : own b ≠ 0) : B ≤ b := by
  rcases Nat.lt_or_ge b B with h' | h'
  · exact absurd (h.old b h') hb
  · exact h'

theorem FileOK.fileBlocks {B : Nat} {own : Nat → Nat} {w : World} {fb : Nat} {sh : Bool} {σ : List SecA} {dsv slv siv : Value} {mb : Nat} (h : FileOK B own w fb sh σ dsv slv siv mb) :
    ∀ b, b ∈ (mb :: fb :: (slv.ownBlock.toList ++ siv.ownBlock.toList)) → own b = 1 ∧ ∀ T cs, Blk w b T cs → T = 102 ∨ T = 9 ∨ T = 3 := by
  intro b hb
  simp only [List.mem_cons, List.mem_append, Option.mem_toList] at hb
  rcases hb with rfl | rfl | hb | hb
  · exact ⟨h.omb, fun T cs hT => absurd rfl (h.mp.ne hT)⟩
  · refine ⟨h.ofb, fun T cs hT => .inl ?_⟩
    by_cases e : T = 102
    · exact e
    · exact absurd rfl (hT.ne h.file e)
  · refine ⟨h.osl _ hb, fun T cs hT => .inr (.inl ?_)⟩
    by_cases e : T = 9
    · exact e
    · exact absurd rfl (h.sl.ne hT (Ne.symm e) _ hb)
  · refine ⟨h.osi _ hb, fun T cs hT => .inr (.inr ?_)⟩
    by_cases e : T = 3
    · exact e
    · exact absurd rfl (h.si.ne hT (Ne.symm e) _ hb)

def secNew (sb km kl kh gb cap : Nat) (name : ByteArray) : SecA := ⟨sb, km, kh, .slice (some ⟨kl, 0, none⟩) 0 10, gb, cap, name, []⟩

theorem FileOK.addSec {B : Nat} {own : Nat → Nat} {w w' : World} {fb : Nat} {sh : Bool} {σ : List SecA} {dsv slv siv : Value} {mb : Nat} (h : FileOK B own w fb sh σ dsv slv siv mb)
    {name : ByteArray} {sb km kl kh gb cap g1 cap1 g2 cap2 n : Nat} (k : NewSec w w' fb mb sh σ dsv slv siv name sb km kl kh gb cap g1 cap1 g2 cap2 n) (hno : name ∉ σ.map (·.name)) :
    ∃ own', (∀ b, b < w.heap.size → own' b = own b) ∧ FileOK B own' w' fb sh (σ ++ [secNew sb km kl kh gb cap name]) dsv (.slice (some ⟨g1, 0, none⟩) ((strs (List.map (fun x => x.name) σ)).length + 1) cap1) (.slice (some ⟨g2, 0, none⟩) ((σ.map fun _ => Value.int .i64 0).length + 1) cap2) mb ∧
      Native B w (mb :: fb :: (slv.ownBlock.toList ++ siv.ownBlock.toList)) := by
  have hfb := h.file.lt
  have hmb := h.mp.lt
  have hBfb : B ≤ fb := h.ge (by rw [h.ofb]; decide)
  have n0 := k.n0
  refine ⟨fun b => if b < w.heap.size then own b else if b < n then 1 else σ.length + 2, fun b hb => if_pos hb, ?_, ?_⟩
  · have new : ∀ b, n ≤ b → (if b < w.heap.size then own b else if b < n then 1 else σ.length + 2) = σ.length + 2 := fun b hb => by
      rw [if_neg (by omega), if_neg (by omega)]
    refine { old := fun b hb => ?_, file := k.file, sl := ?_, si := ?_, mp := ?_, secs := ?_, ofb := ?_, omb := ?_, osl := ?_, osi := ?_, nodup := ?_ }
    · show (if _ then _ else _) = 0
      rw [if_pos (by omega)]; exact h.old b hb
    · have := k.sl
      simpa [strs, secNew] using this
    · have := k.si
      simpa using this
    · have := k.mp
      simpa [secNew] using this
    · intro i s hs
      rcases Nat.lt_or_ge i σ.length with hi | hi
      · rw [List.getElem?_append_left hi] at hs
        refine ((h.secs i s hs).own (own' := fun b => if b < w.heap.size then own b else if b < n then 1 else σ.length + 2) (fun b hb => if_pos hb)).other k.ch ?_
        intro b hb
        have hlt : b < w.heap.size := by
          simp only [List.mem_cons, List.mem_append, Option.mem_toList] at hb
          rcases hb with rfl | rfl | hb | hb
          · exact hmb
          · exact hfb
          · exact h.sl.lt hb
          · exact h.si.lt hb
        obtain ⟨h1, h2⟩ := h.fileBlocks b hb
        refine ⟨?_, fun T cs hT => ?_⟩
        · show (if _ then _ else _) ≠ _
          rw [if_pos hlt, h1]; omega
        · rcases h2 T cs hT with rfl | rfl | rfl <;> decide
      · have hi' : i = σ.length := by
          have := (List.getElem?_eq_some_iff.1 hs).1
          simp at this; omega
        subst hi'
        simp at hs
        subst hs
        exact { sec := k.sec, km := k.hkm, kh := ⟨_, k.hkh⟩, kl := k.hkl, ne := k.ne, keys := (fun x hx => by cases hx), osb := new _ k.nsb, okm := new _ k.nkm, okh := new _ k.nkh,
                okl := (fun g hg => by cases hg; exact new _ k.nkl), okb := (fun x hx => by cases hx), grp := k.grp, nodup := List.nodup_nil, nodupb := List.nodup_nil }
    · show (if _ then _ else _) = 1
      rw [if_pos hfb]; exact h.ofb
    · show (if _ then _ else _) = 1
      rw [if_pos hmb]; exact h.omb
    · intro g hg
      cases hg
      show (if _ then _ else _) = 1
      by_cases hl : g1 < w.heap.size
      · rw [if_pos hl]
        rcases k.own1 with h1 | h1
        · exact h.osl _ h1
        · omega
      · rw [if_neg hl, if_pos k.lt1]
    · intro g hg
      cases hg
      show (if _ then _ else _) = 1
      by_cases hl : g2 < w.heap.size
      · rw [if_pos hl]
        rcases k.own2 with h1 | h1
        · exact h.osi _ h1
        · omega
      · rw [if_neg hl, if_pos k.lt2]
    · rw [List.map_append]
      refine List.nodup_append.2 ⟨h.nodup, by simp, fun a ha b hb => ?_⟩
      simp [secNew] at hb
      subst hb
      exact fun e => hno (e ▸ ha)
  · intro b hb
    obtain ⟨h1, h2⟩ := h.fileBlocks b hb
    refine ⟨h.ge (by rw [h1]; decide), fun T cs hT => ?_⟩
    rcases h2 T cs hT with rfl | rfl | rfl <;> decide
end Go.Proofs.YtfnncdngfggcjaaGreatDoor
