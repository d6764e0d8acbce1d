/- What a file is in memory: FileOK; its frame. -/
import Derived.Test.YtfnncdngfggcjaaGreatDoorSec1
namespace Go.Proofs.YtfnncdngfggcjaaGreatDoor
open Go.RowKit

structure KeyA where
  kb : Nat
  name : ByteArray
  val : ByteArray
  auto : Bool
  shv : Value
  shs : List (Nat × ByteArray)

structure SecA where
  sb : Nat
  km : Nat
  kh : Nat
  klv : Value
  gb : Nat
  gcap : Nat
  name : ByteArray
  keys : List KeyA

def ptr (b : Nat) : Value := .pointer (some ⟨b, 0, none⟩)

def fileCells (sh : Bool) (dsv slv siv : Value) (mb : Nat) : List Value :=
  [.bool false, .bool false, .bool false, .bool false, .bool false, .bool false, .bool false, .bool false, .bool false, .bool sh, .bool false, .bool false, .bool false, .bool false, .bool false,
   .slice none 0 0, .string ⟨#[61, 58]⟩, .string ⟨#[61]⟩, .string ⟨#[46]⟩, .bool false, .int .i64 0, .bool false, .bool false,
   dsv, .bool true, slv, siv, .map (some mb), .nilFunc]

structure KeyOK (w : World) (sb : Nat) (k : KeyA) : Prop where
  key : Blk w k.kb 107 (keyCells sb es k.name k.val k.auto false k.shv)
  shr : Row w 70 k.shv (k.shs.map fun x => ptr x.1)
  shk : ∀ x, x ∈ k.shs → Blk w x.1 107 (keyCells sb es k.name x.2 false true (.slice none 0 0))

structure SecOK (own : Nat → Nat) (i : Nat) (w : World) (fb : Nat) (s : SecA) : Prop where
  sec : Blk w s.sb 96 (secCells fb es s.name s.km s.klv s.kh)
  km : MapAt w s.km (s.keys.map fun k => (k.name, ptr k.kb))
  kh : ∃ l, MapAt w s.kh l
  kl : Row w 9 s.klv (strs (s.keys.map (·.name)))
  ne : s.km ≠ s.kh
  keys : ∀ k, k ∈ s.keys → KeyOK w s.sb k
  osb : own s.sb = i + 2
  okm : own s.km = i + 2
  okh : own s.kh = i + 2
  okl : ∀ g, s.klv.ownBlock = some g → own g = i + 2
  okb : ∀ k, k ∈ s.keys → own k.kb = i + 2 ∧ ∀ x, x ∈ k.shs → own x.1 = i + 2
  grp : Row w 62 (.slice (some ⟨s.gb, 0, none⟩) 1 s.gcap) [ptr s.sb]
  nodup : (s.keys.map (·.name)).Nodup
  nodupb : (s.keys.map (·.kb)).Nodup

structure FileOK (B : Nat) (own : Nat → Nat) (w : World) (fb : Nat) (sh : Bool) (σ : List SecA) (dsv slv siv : Value) (mb : Nat) : Prop where
  old : ∀ b, b < B → own b = 0
  file : Blk w fb 102 (fileCells sh dsv slv siv mb)
  sl : Row w 9 slv (strs (σ.map (·.name)))
  si : Row w 3 siv (σ.map fun _ => .int .i64 0)
  mp : MapAt w mb (σ.map fun s => (s.name, .slice (some ⟨s.gb, 0, none⟩) 1 s.gcap))
  secs : ∀ i s, σ[i]? = some s → SecOK own i w fb s
  ofb : own fb = 1
  omb : own mb = 1
  osl : ∀ g, slv.ownBlock = some g → own g = 1
  osi : ∀ g, siv.ownBlock = some g → own g = 1
  nodup : (σ.map (·.name)).Nodup

/-- The types of a file's blocks. -/
def fileTypes : List TypeId := [102, 9, 3, 96, 62, 107, 70]

/-- None of these blocks is one of a file's. -/
def Alien (w : World) (S : List Nat) : Prop := ∀ b, b ∈ S → ∃ T cs, Blk w b T cs ∧ T ∉ fileTypes
/-- All of these blocks are of a file's kinds, or maps. -/
def Native (B : Nat) (w : World) (S : List Nat) : Prop := ∀ b, b ∈ S → B ≤ b ∧ ∀ T cs, Blk w b T cs → T ∈ fileTypes

theorem Native.not {B : Nat} {w : World} {S : List Nat} (h : Native B w S) {b : Nat} {T : TypeId} {cs : List Value} (hb : Blk w b T cs) (hT : T ∉ fileTypes) : b ∉ S := fun hm => hT ((h b hm).2 T cs hb)
theorem Native.ge {B : Nat} {w : World} {S : List Nat} (h : Native B w S) : ∀ b, b ∈ S → B ≤ b := fun b hb => (h b hb).1
theorem Alien.blk {w : World} {S : List Nat} (h : Alien w S) {b : Nat} {T : TypeId} {cs : List Value} (hb : Blk w b T cs) (hT : T ∈ fileTypes) : b ∉ S := fun hm => by
  obtain ⟨T', cs', h1, h2⟩ := h b hm
  by_cases e : T' = T
  · subst e; exact h2 hT
  · exact h1.ne hb e rfl
theorem Alien.map {w : World} {S : List Nat} (h : Alien w S) {b : Nat} {l : List (ByteArray × Value)} (hb : MapAt w b l) : b ∉ S := fun hm => by
  obtain ⟨T', cs', h1, _⟩ := h b hm
  exact hb.ne h1 rfl
theorem Alien.row {w : World} {S : List Nat} (h : Alien w S) {T : TypeId} {v : Value} {xs : List Value} (hr : Row w T v xs) (hT : T ∈ fileTypes) : ∀ g, v.ownBlock = some g → g ∉ S := fun g hg => by
  obtain ⟨cur, cap, _, hb, _⟩ := hr.blk hg
  exact h.blk hb hT

theorem KeyOK.ch {w w' : World} {sb : Nat} {k : KeyA} (h : KeyOK w sb k) {S : List Nat} (c : Ch S w w') (h1 : k.kb ∉ S) (h2 : ∀ g, k.shv.ownBlock = some g → g ∉ S) (h3 : ∀ x, x ∈ k.shs → x.1 ∉ S) : KeyOK w' sb k :=
  ⟨h.key.ch c h1, h.shr.ch c h2, fun x hx => (h.shk x hx).ch c (h3 x hx)⟩
theorem KeyOK.alien {w w' : World} {sb : Nat} {k : KeyA} (h : KeyOK w sb k) {S : List Nat} (c : Ch S w w') (hS : Alien w S) : KeyOK w' sb k :=
  h.ch c (hS.blk h.key (by decide)) (hS.row h.shr (by decide)) (fun x hx => hS.blk (h.shk x hx) (by decide))
theorem SecOK.alien {own : Nat → Nat} {i : Nat} {w w' : World} {fb : Nat} {s : SecA} (h : SecOK own i w fb s) {S : List Nat} (c : Ch S w w') (hS : Alien w S) : SecOK own i w' fb s :=
  { sec := h.sec.ch c (hS.blk h.sec (by decide)), km := h.km.ch c (hS.map h.km), kh := (let ⟨l, hl⟩ := h.kh; ⟨l, hl.ch c (hS.map hl)⟩), kl := h.kl.ch c (hS.row h.kl (by decide)), ne := h.ne,
    keys := fun k hk => (h.keys k hk).alien c hS, osb := h.osb, okm := h.okm, okh := h.okh, okl := h.okl, okb := h.okb, grp := h.grp.ch c (hS.row h.grp (by decide)), nodup := h.nodup, nodupb := h.nodupb }
theorem FileOK.alien {B : Nat} {own : Nat → Nat} {w w' : World} {fb : Nat} {sh : Bool} {σ : List SecA} {dsv slv siv : Value} {mb : Nat} (h : FileOK B own w fb sh σ dsv slv siv mb) {S : List Nat} (c : Ch S w w') (hS : Alien w S) : FileOK B own w' fb sh σ dsv slv siv mb :=
  { old := h.old, file := h.file.ch c (hS.blk h.file (by decide)), sl := h.sl.ch c (hS.row h.sl (by decide)), si := h.si.ch c (hS.row h.si (by decide)), mp := h.mp.ch c (hS.map h.mp),
    secs := fun i s hs => (h.secs i s hs).alien c hS, ofb := h.ofb, omb := h.omb, osl := h.osl, osi := h.osi, nodup := h.nodup }
theorem FileOK.nil {B : Nat} {own : Nat → Nat} {w w' : World} {fb : Nat} {sh : Bool} {σ : List SecA} {dsv slv siv : Value} {mb : Nat} (h : FileOK B own w fb sh σ dsv slv siv mb) (c : Ch [] w w') : FileOK B own w' fb sh σ dsv slv siv mb :=
  h.alien c (fun b hb => by cases hb)

/-- A section stays whole where nothing of its own is turned. -/
theorem SecOK.other {own : Nat → Nat} {i : Nat} {w w' : World} {fb : Nat} {s : SecA} (h : SecOK own i w fb s) {S : List Nat} (c : Ch S w w') (hS : ∀ b, b ∈ S → own b ≠ i + 2 ∧ (∀ T cs, Blk w b T cs → T ≠ 62 ∧ T ≠ 70)) : SecOK own i w' fb s := by
  have no : ∀ b, own b = i + 2 → b ∉ S := fun b hb hm => (hS b hm).1 hb
  have row : ∀ T v xs, Row w T v xs → T = 62 ∨ T = 70 → ∀ g, v.ownBlock = some g → g ∉ S := fun T v xs hr hT g hg hm => by
    obtain ⟨cur, cap, _, hb, _⟩ := hr.blk hg
    have := (hS g hm).2 _ _ hb
    rcases hT with rfl | rfl
    · exact this.1 rfl
    · exact this.2 rfl
  exact { sec := h.sec.ch c (no _ h.osb), km := h.km.ch c (no _ h.okm), kh := (let ⟨l, hl⟩ := h.kh; ⟨l, hl.ch c (no _ h.okh)⟩), kl := h.kl.ch c (fun g hg => no _ (h.okl g hg)), ne := h.ne,
          keys := fun k hk => (h.keys k hk).ch c (no _ (h.okb k hk).1) (row _ _ _ (h.keys k hk).shr (.inr rfl)) (fun x hx => no _ ((h.okb k hk).2 x hx)),
          osb := h.osb, okm := h.okm, okh := h.okh, okl := h.okl, okb := h.okb, grp := h.grp.ch c (row _ _ _ h.grp (.inl rfl)), nodup := h.nodup, nodupb := h.nodupb }
/-- .. under another word on who owns what, the same for what was there. -/
theorem SecOK.own {own own' : Nat → Nat} {i : Nat} {w : World} {fb : Nat} {s : SecA} (h : SecOK own i w fb s) (e : ∀ b, b < w.heap.size → own' b = own b) : SecOK own' i w fb s :=
  { sec := h.sec, km := h.km, kh := h.kh, kl := h.kl, ne := h.ne, keys := h.keys, osb := (e _ h.sec.lt).trans h.osb, okm := (e _ h.km.lt).trans h.okm, okh := (let ⟨_, hl⟩ := h.kh; e _ hl.lt).trans h.okh,
    okl := fun g hg => (e _ (h.kl.lt hg)).trans (h.okl g hg), okb := fun k hk => ⟨(e _ (h.keys k hk).key.lt).trans (h.okb k hk).1, fun x hx => (e _ ((h.keys k hk).shk x hx).lt).trans ((h.okb k hk).2 x hx)⟩,
    grp := h.grp, nodup := h.nodup, nodupb := h.nodupb }
end Go.Proofs.YtfnncdngfggcjaaGreatDoor
