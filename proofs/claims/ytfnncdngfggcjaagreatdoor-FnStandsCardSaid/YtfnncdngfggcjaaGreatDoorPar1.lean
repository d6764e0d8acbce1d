/- What the parser holds between two lines: RdrOK; the lines of a text, and what they make of a file: stepP. -/
import Derived.Test.YtfnncdngfggcjaaGreatDoorFi1
import Derived.Test.YtfnncdngfggcjaaGreatDoorLf4
namespace Go.Proofs.YtfnncdngfggcjaaGreatDoor
open Go.RowKit

/-- The parser, its reader, its buffers, between two lines. -/
structure RdrOK (pb rb bb br cb B L : Nat) (txt : List UInt8) (dv : Option Addr) (cap : Nat) (pr : Int) (ea fa : Addr) (t : Bool) (w : World) (cnt : Int) (r : Nat) (lb ls : Int) : Prop where
  par : Blk w pb 206 (parCells rb cb false cnt)
  rdr : Blk w rb 231 (rdCells bb br r L .nilIface lb ls)
  buf : ∃ cs : List Value, Blk w bb 5 cs ∧ ∀ (i : Nat) (c : UInt8), txt[i]? = some c → cs[i]? = some (Value.int .u8 c.toNat)
  com : Blk w cb 229 bufCells
  src : Blk w br 296 [.slice dv L cap, .int .i64 L, .int .i64 pr]
  glob : Glob w B ea fa
  tab : t = true → SpcTab w
  gpb : B ≤ pb
  grb : B ≤ rb
  gbb : B ≤ bb
  gcb : B ≤ cb

section
variable {pb rb bb br cb B L : Nat} {txt : List UInt8} {dv : Option Addr} {cap : Nat} {pr : Int} {ea fa : Addr} {t : Bool} {w w' : World} {cnt : Int} {r : Nat} {lb ls : Int}

theorem RdrOK.ch (h : RdrOK pb rb bb br cb B L txt dv cap pr ea fa t w cnt r lb ls) {S : List Nat} (c : Ch S w w') (hS : ∀ b, b ∈ S → B ≤ b) (h1 : pb ∉ S) (h2 : rb ∉ S) (h3 : bb ∉ S) (h4 : cb ∉ S) (h5 : br ∉ S) :
    RdrOK pb rb bb br cb B L txt dv cap pr ea fa t w' cnt r lb ls := by
  have h6 := h.glob.h6
  have hB := h.glob.hB
  exact ⟨h.par.ch c h1, h.rdr.ch c h2, (let ⟨cs, hb, hc⟩ := h.buf; ⟨cs, hb.ch c h3, hc⟩), h.com.ch c h4, h.src.ch c h5, h.glob.ch c hS, fun ht => (h.tab ht).ch c (fun hm => by have := hS 0 hm; omega) (by omega), h.gpb, h.grb, h.gbb, h.gcb⟩
theorem RdrOK.native (h : RdrOK pb rb bb br cb B L txt dv cap pr ea fa t w cnt r lb ls) {S : List Nat} (c : Ch S w w') (n : Native B w S) : RdrOK pb rb bb br cb B L txt dv cap pr ea fa t w' cnt r lb ls :=
  h.ch c n.ge (n.not h.par (by decide)) (n.not h.rdr (by decide)) (let ⟨_, hb, _⟩ := h.buf; n.not hb (by decide)) (n.not h.com (by decide)) (n.not h.src (by decide))
theorem RdrOK.nil (h : RdrOK pb rb bb br cb B L txt dv cap pr ea fa t w cnt r lb ls) (c : Ch [] w w') : RdrOK pb rb bb br cb B L txt dv cap pr ea fa t w' cnt r lb ls :=
  h.ch c (by simp) (by simp) (by simp) (by simp) (by simp) (by simp)
theorem RdrOK.hbuf (h : RdrOK pb rb bb br cb B L txt dv cap pr ea fa t w cnt r lb ls) : ∀ i c, txt[i]? = some c → w.cell? ⟨bb, i, none⟩ = some (.int .u8 c.toNat) := fun i c hi => by
  obtain ⟨cs, hb, hc⟩ := h.buf
  rw [hb.cells i]; exact hc i c hi
theorem RdrOK.reset (h : RdrOK pb rb bb br cb B L txt dv cap pr ea fa t w cnt r lb ls) (c : Ch [cb] w w') (hcom : Blk w' cb 229 bufCells) : RdrOK pb rb bb br cb B L txt dv cap pr ea fa t w' cnt r lb ls := by
  have h6 := h.glob.h6
  have hB := h.glob.hB
  have hg := h.gcb
  exact ⟨h.par.ch c (by simpa using h.par.ne h.com (by decide)), h.rdr.ch c (by simpa using h.rdr.ne h.com (by decide)), (let ⟨cs, hb, hc⟩ := h.buf; ⟨cs, hb.ch c (by simpa using hb.ne h.com (by decide)), hc⟩), hcom,
    h.src.ch c (by simpa using h.src.ne h.com (by decide)), h.glob.ch c (by simpa using hg), fun ht => (h.tab ht).ch c (fun hm => by simp at hm; omega) (by omega), h.gpb, h.grb, h.gbb, h.gcb⟩
theorem RdrOK.count (h : RdrOK pb rb bb br cb B L txt dv cap pr ea fa t w cnt r lb ls) (v : Int) : RdrOK pb rb bb br cb B L txt dv cap pr ea fa t (w.setCell ⟨pb, 10, none⟩ (.int .i64 v)) v r lb ls := by
  have h6 := h.glob.h6
  have hB := h.glob.hB
  have hg := h.gpb
  have c : Ch [pb] w (w.setCell ⟨pb, 10, none⟩ (.int .i64 v)) := (Ch.refl [pb] w).set (by simp) _
  exact ⟨h.par.set 10 (.int .i64 v), h.rdr.ch c (by simpa using h.rdr.ne h.par (by decide)), (let ⟨cs, hb, hc⟩ := h.buf; ⟨cs, hb.ch c (by simpa using hb.ne h.par (by decide)), hc⟩), h.com.ch c (by simpa using h.com.ne h.par (by decide)),
    h.src.ch c (by simpa using h.src.ne h.par (by decide)), h.glob.ch c (by simpa using hg), fun ht => (h.tab ht).ch c (fun hm => by simp at hm; omega) (by omega), h.gpb, h.grb, h.gbb, h.gcb⟩
theorem RdrOK.read (h : RdrOK pb rb bb br cb B L txt dv cap pr ea fa t w cnt r lb ls) (c : Ch [rb] w w') {r' : Nat} {lb' ls' : Int} (hr : Blk w' rb 231 (rdCells bb br r' L .nilIface lb' ls')) :
    RdrOK pb rb bb br cb B L txt dv cap pr ea fa t w' cnt r' lb' ls' := by
  have h6 := h.glob.h6
  have hB := h.glob.hB
  have hg := h.grb
  exact ⟨h.par.ch c (by simpa using h.par.ne h.rdr (by decide)), hr, (let ⟨cs, hb, hc⟩ := h.buf; ⟨cs, hb.ch c (by simpa using hb.ne h.rdr (by decide)), hc⟩), h.com.ch c (by simpa using h.com.ne h.rdr (by decide)),
    h.src.ch c (by simpa using h.src.ne h.rdr (by decide)), h.glob.ch c (by simpa using hg), fun ht => (h.tab ht).ch c (fun hm => by simp at hm; omega) (by omega), h.gpb, h.grb, h.gbb, h.gcb⟩
theorem RdrOK.alienR (h : RdrOK pb rb bb br cb B L txt dv cap pr ea fa t w cnt r lb ls) : Alien w [rb] := fun b hb => by rw [List.mem_singleton] at hb; subst hb; exact ⟨_, _, h.rdr, by decide⟩
theorem RdrOK.alienC (h : RdrOK pb rb bb br cb B L txt dv cap pr ea fa t w cnt r lb ls) : Alien w [cb] := fun b hb => by rw [List.mem_singleton] at hb; subst hb; exact ⟨_, _, h.com, by decide⟩
theorem RdrOK.alienP (h : RdrOK pb rb bb br cb B L txt dv cap pr ea fa t w cnt r lb ls) : Alien w [pb] := fun b hb => by rw [List.mem_singleton] at hb; subst hb; exact ⟨_, _, h.par, by decide⟩
end

/-! ### Lines -/
inductive Ln where
  | sec (n : ByteArray)
  | key (k v : ByteArray)
def Ln.body : Ln → List UInt8
  | .sec n => 91 :: (n.data.toList ++ [93])
  | .key k v => k.data.toList ++ 32 :: 61 :: 32 :: v.data.toList
def textOf : List Ln → List UInt8
  | [] => []
  | l :: r => l.body ++ 10 :: textOf r

def nameCh (c : Int) : Bool := isLetter c || c == 45 || c == 46 || c == 95
theorem nameCh_facts {c : Int} (h : nameCh c = true) : 45 ≤ c ∧ c < 128 ∧ c ≠ 58 ∧ c ≠ 59 ∧ c ≠ 61 ∧ c ≠ 91 ∧ c ≠ 93 ∧ c ≠ 96 := by
  unfold nameCh isLetter at h
  simp at h
  omega
structure NameB (n : ByteArray) : Prop where
  pos : 0 < n.size
  max : n.size ≤ 200
  ch : ∀ i, i < n.size → nameCh (bt n i) = true

/-! ### What lines make of a file -/
abbrev KV := ByteArray × ByteArray × List ByteArray
abbrev SV := ByteArray × List KV
def KeyA.view (k : KeyA) : KV := (k.name, k.val, k.shs.map (·.2))
def SecA.view (s : SecA) : SV := (s.name, s.keys.map KeyA.view)
def viewOf (σ : List SecA) : List SV := σ.map SecA.view

def secV : List SV → ByteArray → List SV × Nat
  | [], n => ([(n, [])], 0)
  | x :: v, n => if x.1 = n then (x :: v, 0) else ((x :: (secV v n).1), (secV v n).2 + 1)
theorem secV_new {n : ByteArray} : ∀ {v : List SV}, n ∉ v.map (·.1) → secV v n = (v ++ [(n, [])], v.length)
  | [], _ => rfl
  | x :: v, h => by
    rw [List.map_cons, List.mem_cons, not_or] at h
    unfold secV
    rw [if_neg (Ne.symm h.1), secV_new h.2]; rfl
theorem secV_old {n : ByteArray} : ∀ {v : List SV} {i : Nat} {x : SV}, (v.map (·.1)).Nodup → v[i]? = some x → x.1 = n → secV v n = (v, i)
  | [], _, _, _, h, _ => by simp at h
  | y :: v, i, x, hn, h, hx => by
    rw [List.map_cons, List.nodup_cons] at hn
    unfold secV
    cases i with
    | zero => simp at h; subst h; rw [if_pos hx]
    | succ i =>
      simp at h
      have hm : x.1 ∈ v.map (·.1) := List.mem_map.2 ⟨x, List.mem_of_getElem? h, rfl⟩
      rw [if_neg (fun e => hn.1 (by rw [e, ← hx]; exact hm)), secV_old hn.2 h hx]

def putK (sh : Bool) : List KV → ByteArray → ByteArray → List KV
  | [], n, v => [(n, v, [])]
  | x :: r, n, v => if x.1 = n then (if sh then (x.1, x.2.1, x.2.2 ++ [v]) else (x.1, v, x.2.2)) :: r else x :: putK sh r n v
theorem putK_new {sh : Bool} {n v : ByteArray} : ∀ {r : List KV}, n ∉ r.map (·.1) → putK sh r n v = r ++ [(n, v, [])]
  | [], _ => rfl
  | x :: r, h => by
    rw [List.map_cons, List.mem_cons, not_or] at h
    unfold putK
    rw [if_neg (Ne.symm h.1), putK_new h.2]; rfl
theorem putK_old {sh : Bool} {n v : ByteArray} : ∀ {r : List KV} {j : Nat} {x : KV}, (r.map (·.1)).Nodup → r[j]? = some x → x.1 = n → putK sh r n v = r.set j (if sh then (x.1, x.2.1, x.2.2 ++ [v]) else (x.1, v, x.2.2))
  | [], _, _, _, h, _ => by simp at h
  | y :: r, j, x, hn, h, hx => by
    rw [List.map_cons, List.nodup_cons] at hn
    unfold putK
    cases j with
    | zero => simp at h; subst h; rw [if_pos hx]; rfl
    | succ j =>
      simp at h
      have hm : x.1 ∈ r.map (·.1) := List.mem_map.2 ⟨x, List.mem_of_getElem? h, rfl⟩
      rw [if_neg (fun e => hn.1 (by rw [e, ← hx]; exact hm)), putK_old hn.2 h hx]; rfl

structure PS where
  v : List SV
  cur : Nat
  cnt : Nat

abbrev dash : ByteArray := ⟨#[45]⟩
def numName (n : Nat) : ByteArray := ⟨#[35]⟩ ++ ⟨(Lib.decDigits n).toArray⟩
theorem numName_head (n : Nat) : bt (numName n) 0 = 35 := by
  unfold numName bt
  rw [ByteArray.data_append, Array.toList_append]; rfl
def keyOf (cnt : Nat) (k : ByteArray) : ByteArray := if k = dash then numName cnt else k
def putV (sh : Bool) (v : List SV) (i : Nat) (n x : ByteArray) : List SV := v.modify i fun s => (s.1, putK sh s.2 n x)
def stepP (sh : Bool) (p : PS) : Ln → PS
  | .sec n => ⟨(secV p.v n).1, (secV p.v n).2, 1⟩
  | .key k x => ⟨putV sh p.v p.cur (keyOf p.cnt k) x, p.cur, if k = dash then p.cnt + 1 else p.cnt⟩
def okKey (sh : Bool) (r : List KV) (n v : ByteArray) : Prop := r.length ≤ 1000 ∧ (n ∉ r.map (·.1) ∨ ∃ (j : Nat) (x : KV), r[j]? = some x ∧ x.1 = n ∧ (sh = true → bt n 0 ≠ 35 ∧ x.2.1 ≠ v ∧ x.2.2 = []))
def okStep (sh t : Bool) (p : PS) : Ln → Prop
  | .sec n => NameB n ∧ p.v.length ≤ 100
  | .key k x => t = true ∧ NameB k ∧ ValB x ∧ p.cnt < 100 ∧ ∃ s, p.v[p.cur]? = some s ∧ okKey sh s.2 (keyOf p.cnt k) x
def runP (sh : Bool) : PS → List Ln → PS
  | p, [] => p
  | p, l :: r => runP sh (stepP sh p l) r
def okRun (sh t : Bool) : PS → List Ln → Prop
  | _, [] => True
  | p, l :: r => okStep sh t p l ∧ okRun sh t (stepP sh p l) r
end Go.Proofs.YtfnncdngfggcjaaGreatDoor
