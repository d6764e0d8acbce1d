/- FnTwice: its text, and what impl.Load tells of it at options 0 and 2. -/
import Derived.Test.YtfnncdngfggcjaaGreatDoorPt2
import Derived.Test.YtfnncdngfggcjaaGreatDoorSo5
namespace Go.Proofs.YtfnncdngfggcjaaGreatDoor
open Go.RowKit

/-- The law's premises. -/
structure TwIn (name a b : ByteArray) : Prop where
  hn : isNameB name = true
  ha : isPlain a = true
  hb : isPlain b = true
  ne : a ≠ b
def twLines (name a b : ByteArray) : List Ln := [.key name a, .key name b]
def twFin (sh : Bool) (name a b : ByteArray) : List SV := [(dflt, [if sh then (name, a, [b]) else (name, b, [])])]

theorem head_key {k v : ByteArray} (r : List Ln) (hk : NameB k) : ∃ b0 b1 tl, textOf (.key k v :: r) = b0 :: b1 :: tl ∧ b0.toNat < 128 := by
  have : ∃ c tl, k.data.toList = c :: tl := by
    cases h : k.data.toList with
    | nil => have := toList_length k; rw [h] at this; have := hk.pos; simp at *; omega
    | cons c tl => exact ⟨c, tl, rfl⟩
  obtain ⟨c, tl, h⟩ := this
  have hc : c.toNat < 128 := by
    have h1 := bt_at (v := k) (i := 0) (c := c) (by rw [h]; rfl)
    have h2 := nameCh_facts (hk.ch 0 hk.pos)
    omega
  show ∃ b0 b1 tl, (k.data.toList ++ 32 :: 61 :: 32 :: v.data.toList) ++ 10 :: textOf r = b0 :: b1 :: tl ∧ _
  rw [h]
  cases tl with
  | nil => exact ⟨c, 32, _, rfl, hc⟩
  | cons d tl => exact ⟨c, d, _, rfl, hc⟩

section
variable {name a b : ByteArray}
theorem tw_step1 (h : TwIn name a b) (sh : Bool) : stepP sh ⟨[(dflt, [])], 0, 1⟩ (.key name a) = ⟨[(dflt, [(name, a, [])])], 0, 1⟩ := by
  show (⟨putV sh [(dflt, [])] 0 (keyOf 1 name) a, 0, if name = dash then 1 + 1 else 1⟩ : PS) = _
  rw [keyOf_name h.hn, if_neg (nameB_ne_dash h.hn)]
  rfl
theorem tw_run (h : TwIn name a b) (sh : Bool) : (runP sh ⟨[(dflt, [])], 0, 1⟩ (twLines name a b)).v = twFin sh name a b := by
  show (stepP sh (stepP sh ⟨[(dflt, [])], 0, 1⟩ (.key name a)) (.key name b)).v = _
  rw [tw_step1 h]
  show putV sh [(dflt, [(name, a, [])])] 0 (keyOf 1 name) b = _
  rw [keyOf_name h.hn]
  unfold putV twFin
  cases sh <;> simp [putK]
theorem tw_ok (h : TwIn name a b) (sh : Bool) {txt : ByteArray} (ht : txt.data.toList = textOf (twLines name a b)) : TextOK sh true (twLines name a b) txt := by
  refine TextOK.of ht (head_key _ (nameB_of h.hn)) ?_ ?_
  · have h1 := nameB_size h.hn
    have h2 := plain_size h.ha
    have h3 := plain_size h.hb
    have h0 : (textOf []).length = 0 := rfl
    unfold twLines
    simp only [textOf_length, key_length, h0]; omega
  · refine ⟨⟨rfl, nameB_of h.hn, valB_of h.ha, by show (1 : Nat) < 100; decide, (dflt, []), rfl, okKey_nil⟩, ?_⟩
    rw [tw_step1 h]
    refine ⟨⟨rfl, nameB_of h.hn, valB_of h.hb, by show (1 : Nat) < 100; decide, (dflt, [(name, a, [])]), rfl, by simp, .inr ⟨0, (name, a, []), rfl, (keyOf_name h.hn 1).symm, fun _ => ⟨?_, h.ne, rfl⟩⟩⟩, trivial⟩
    show bt (keyOf 1 name) 0 ≠ 35
    rw [keyOf_name h.hn]
    intro e
    have := nameB_first h.hn
    rw [e] at this
    exact absurd this (by decide)
theorem tw_told (h : TwIn name a b) (sh : Bool) : Told sh (runP sh ⟨[(dflt, [])], 0, 1⟩ (twLines name a b)).v := by
  rw [tw_run h]
  have h2 := plain_pos h.ha
  have h3 := plain_pos h.hb
  refine ⟨by simp [twFin], by simp [twFin], fun s hs => ?_, fun e => ?_⟩
  · unfold twFin at hs
    rw [List.mem_singleton] at hs
    subst hs; simp
  · subst e
    intro s hs k hk
    unfold twFin at hs
    rw [List.mem_singleton] at hs
    subst hs
    simp only [if_true, List.mem_singleton] at hk
    subst hk
    exact ⟨h2, fun x hx => by simp only [List.mem_singleton] at hx; subst hx; exact h3, Nat.le_refl _⟩
end

/-- What is told of one section with one key. -/
structure OneT (w : World) (sh : Bool) (g gk : Nat) (ck : Nat) (x : KV) (sv : Value) : Prop where
  gl : g < w.heap.size
  c2 : w.cell? ⟨g, 2, none⟩ = some (.slice (some ⟨gk, 0, none⟩) 1 ck)
  kl : gk < w.heap.size
  k1 : w.cell? ⟨gk, 1, none⟩ = some (.string x.2.1)
  k3 : w.cell? ⟨gk, 3, none⟩ = some sv
  ck : 1 ≤ ck
  sh : ShT w sh x sv
theorem oneT_of {w : World} {sh : Bool} {a : Option Addr} {c : Nat} {n : ByteArray} {x : KV} (h : SecsT w sh [(n, [x])] (.slice a 1 c)) : ∃ g gk ck sv, a = some ⟨g, 0, none⟩ ∧ 1 ≤ c ∧ OneT w sh g gk ck x sv := by
  obtain ⟨l, h1, h2, h3⟩ := h
  have hl : l.length = 1 := by have := congrArg List.length h1; simpa using this
  obtain ⟨p, rfl⟩ : ∃ p, l = [p] := by
    match l, hl with
    | [p], _ => exact ⟨p, rfl⟩
  simp only [List.map_cons, List.map_nil, List.cons.injEq, and_true] at h1
  obtain ⟨p1, p2⟩ := p
  subst h1
  obtain ⟨a', c', e, hc⟩ := h2.form
  cases e
  obtain ⟨g, rfl, hg, hcell⟩ := hc 2 p2 rfl
  obtain ⟨cur, cap, e, _, hle, _⟩ := h2.blk (g := g) rfl
  cases e
  obtain ⟨m, m1, m2, m3⟩ := h3 ((n, [x]), p2) (by simp)
  have hm : m.length = 1 := by have := congrArg List.length m1; simpa using this
  obtain ⟨q, rfl⟩ : ∃ q, m = [q] := by
    match m, hm with
    | [q], _ => exact ⟨q, rfl⟩
  simp only [List.map_cons, List.map_nil, List.cons.injEq, and_true] at m1
  obtain ⟨q1, q2⟩ := q
  have m1' : q1 = x := m1
  subst m1'
  obtain ⟨a2, c2, e2, hc2⟩ := m2.form
  have e2' : p2 = .slice a2 1 c2 := e2
  subst e2'
  obtain ⟨gk, rfl, hgk, hk1⟩ := hc2 1 (.string q1.2.1) rfl
  obtain ⟨gk', e3, _, hk3⟩ := hc2 3 q2 rfl
  cases e3
  obtain ⟨cur2, cap2, e4, _, hle2, _⟩ := m2.blk (g := gk) rfl
  cases e4
  exact ⟨g, gk, c2, q2, rfl, hle, hg, hcell, hgk, hk1, hk3, hle2, m3 (q1, q2) (by simp)⟩

theorem tw26 (opt : Int) (sh : Bool) (hopt : (opt = 0 ∧ sh = false) ∨ (opt = 2 ∧ sh = true)) (B : Nat) (ea fa : Addr) (name a b : ByteArray) (h : TwIn name a b) (w : World) (g : Glob w B ea fa) (htab : SpcTab w) (txt : ByteArray) (ht : txt.data.toList = textOf (twLines name a b)) :
    Calls Tryz.prog 26 #[.int .i64 opt, .string txt] w fun e w' => ∃ g gk ck sv c, e = .returned (.tuple #[.slice (some ⟨g, 0, none⟩) 1 c, .bool true]) ∧ 1 ≤ c ∧ Hid (OneT w' sh g gk ck (if sh then (name, a, [b]) else (name, b, [])) sv) ∧ Hid (Kept w.heap.size w w') := by
  refine (load_of w.heap.size ea fa opt sh true hopt (twLines name a b) txt w (tw_ok h sh ht) g.up (fun _ => htab) (tw_told h sh)).mono ?_
  rw [tw_run h sh]
  rintro e w' ⟨a', c, rfl, hs, hk⟩
  obtain ⟨g', gk, ck, sv, rfl, hc, ho⟩ := oneT_of hs.out
  exact ⟨g', gk, ck, sv, c, rfl, hc, ho, hk⟩
end Go.Proofs.YtfnncdngfggcjaaGreatDoor
