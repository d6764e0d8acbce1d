/- Words on memory: a block known whole (Blk), a map's block (MapAt), and what a step may have turned (Ch). -/
import Derived.Test.YtfnncdngfggcjaaGreatDoorPureM
import Derived.Laws.CopyOwn
import Derived.Deep.Draws
namespace Go.Proofs.YtfnncdngfggcjaaGreatDoor
open Go.RowKit

/-- Block b is a row of cells of type T, none frozen, and holds just cs. -/
def Blk (w : World) (b : Nat) (T : TypeId) (cs : List Value) : Prop := w.heap[b]? = some (.cells cs.toArray T (0, 0))

theorem Blk.cells {w : World} {b : Nat} {T : TypeId} {cs : List Value} (h : Blk w b T cs) (o : Nat) : w.cell? ⟨b, o, none⟩ = cs[o]? := by
  unfold Blk at h; simp [World.cell?, h]
theorem Blk.frees {w : World} {b : Nat} {T : TypeId} {cs : List Value} (h : Blk w b T cs) (o : Nat) : w.frozen? ⟨b, o, none⟩ = false := by
  unfold Blk at h; simp [World.frozen?, h]
theorem Blk.lt {w : World} {b : Nat} {T : TypeId} {cs : List Value} (h : Blk w b T cs) : b < w.heap.size := by
  unfold Blk at h; exact (Array.getElem?_eq_some_iff.1 h).1
theorem Blk.ne {w : World} {b b' : Nat} {T T' : TypeId} {cs cs' : List Value} (h : Blk w b T cs) (h' : Blk w b' T' cs') (ht : T ≠ T') : b ≠ b' := by
  rintro rfl; unfold Blk at h h'; rw [h] at h'; simp at h'; exact ht h'.2
theorem Blk.shape {w : World} {b : Nat} {T : TypeId} {cs : List Value} (h : Blk w b T cs) : w.shape? b = some (T, cs.length) := by
  unfold Blk at h; simp [World.shape?, h]

theorem Blk.set {w : World} {b : Nat} {T : TypeId} {cs : List Value} (h : Blk w b T cs) (o : Nat) (v : Value) : Blk (w.setCell ⟨b, o, none⟩ v) b T (cs.set o v) := by
  unfold Blk at h ⊢
  simp [World.setCell, Array.getElem?_modify, h]
theorem Blk.setCell {w : World} {b : Nat} {T : TypeId} {cs : List Value} (h : Blk w b T cs) {a : Addr} (hne : b ≠ a.block) (v : Value) : Blk (w.setCell a v) b T cs := by
  unfold Blk at h ⊢
  rw [Below.heap_setCell _ _ _ _ hne]; exact h
theorem Blk.alloc {w : World} {b : Nat} {T : TypeId} {cs : List Value} (h : Blk w b T cs) (o : Obj) : Blk (w.alloc o) b T cs := by
  have hl := h.lt
  unfold Blk at h ⊢
  rw [Below.heap_alloc _ _ _ hl]; exact h
theorem Blk.drew {w : World} {b : Nat} {T : TypeId} {cs : List Value} (h : Blk w b T cs) : Blk w.drew b T cs := h
theorem Blk.drewN {w : World} {b : Nat} {T : TypeId} {cs : List Value} (h : Blk w b T cs) (n : Nat) : Blk (w.drewN n) b T cs := h
theorem Blk.new (w : World) (T : TypeId) (cs : List Value) : Blk (w.alloc (.cells cs.toArray T)) w.heap.size T cs := by
  unfold Blk World.alloc; simp
theorem Blk.newM (w : World) (T : TypeId) (cs : List Value) (n : Nat) (hn : n = w.heap.size) : Blk (w.alloc (.cells cs.toArray T)) n T cs := by subst hn; exact Blk.new w T cs

/-- A block is set anew as a map's: the world of a store into a map. -/
def setO (w : World) (b : Nat) (o : Obj) : World := { w with heap := w.heap.setIfInBounds b o }

/-- What a step may have turned: of the blocks that were there, those of S alone. -/
structure Ch (S : List Nat) (w w' : World) : Prop where
  os : w'.os = w.os
  tape : w'.tape = w.tape
  output : w'.output = w.output
  size : w.heap.size ≤ w'.heap.size
  block : ∀ k, k < w.heap.size → k ∉ S → w'.heap[k]? = w.heap[k]?

theorem Ch.refl (S : List Nat) (w : World) : Ch S w w := ⟨rfl, rfl, rfl, Nat.le_refl _, fun _ _ _ => rfl⟩
theorem Ch.trans {S T : List Nat} {a b c : World} (h : Ch S a b) (k : Ch T b c) (hT : ∀ x, x ∈ T → x ∈ S ∨ a.heap.size ≤ x) : Ch S a c :=
  ⟨k.os.trans h.os, k.tape.trans h.tape, k.output.trans h.output, Nat.le_trans h.size k.size, fun i hi hS =>
    (k.block i (Nat.lt_of_lt_of_le hi h.size) (fun hm => by rcases hT i hm with h' | h'; exact hS h'; omega)).trans (h.block i hi hS)⟩
theorem Ch.mono {S T : List Nat} {a b : World} (h : Ch S a b) (hT : ∀ x, x ∈ S → x ∈ T ∨ a.heap.size ≤ x) : Ch T a b :=
  ⟨h.os, h.tape, h.output, h.size, fun k hk hn => h.block k hk fun hm => by rcases hT k hm with h' | h'; exact hn h'; omega⟩
theorem Ch.join {S T U : List Nat} {a b c : World} (h : Ch S a b) (k : Ch T b c) (hS : ∀ x, x ∈ S → x ∈ U ∨ a.heap.size ≤ x) (hT : ∀ x, x ∈ T → x ∈ U ∨ a.heap.size ≤ x) : Ch U a c :=
  (h.mono hS).trans k hT
theorem Ch.alloc {S : List Nat} {a w : World} (h : Ch S a w) (o : Obj) : Ch S a (w.alloc o) :=
  ⟨h.os, h.tape, h.output, by have := h.size; simp; omega, fun k hk hS => (Below.heap_alloc _ _ _ (Nat.lt_of_lt_of_le hk h.size)).trans (h.block k hk hS)⟩
theorem Ch.drew {S : List Nat} {a w : World} (h : Ch S a w) : Ch S a w.drew := ⟨h.os, h.tape, h.output, h.size, h.block⟩
theorem Ch.drewN {S : List Nat} {a w : World} (h : Ch S a w) (n : Nat) : Ch S a (w.drewN n) := ⟨h.os, h.tape, h.output, h.size, h.block⟩
theorem Ch.set {S : List Nat} {a w : World} (h : Ch S a w) {p : Addr} (hp : p.block ∈ S ∨ a.heap.size ≤ p.block) (v : Value) : Ch S a (w.setCell p v) :=
  ⟨h.os, h.tape, h.output, by rw [World.size_setCell]; exact h.size, fun k hk hS => (Below.heap_setCell _ _ _ _ (fun e => by subst e; rcases hp with h' | h'; exact hS h'; omega)).trans (h.block k hk hS)⟩
theorem setO_heap (w : World) (b : Nat) (o : Obj) (k : Nat) (h : k ≠ b) : (setO w b o).heap[k]? = w.heap[k]? := by
  unfold setO; simp [Ne.symm h]
theorem setO_size (w : World) (b : Nat) (o : Obj) : (setO w b o).heap.size = w.heap.size := by unfold setO; simp
theorem Ch.setO {S : List Nat} {a w : World} (h : Ch S a w) {b : Nat} (hp : b ∈ S ∨ a.heap.size ≤ b) (o : Obj) : Ch S a (setO w b o) :=
  ⟨h.os, h.tape, h.output, by rw [setO_size]; exact h.size, fun k hk hS => (setO_heap _ _ _ _ (fun e => by subst e; rcases hp with h' | h'; exact hS h'; omega)).trans (h.block k hk hS)⟩
theorem Ch.ofBelow {a b : World} (h : Below a.heap.size a b) : Ch [] a b := ⟨h.os, h.tape, h.output, h.size, fun k hk _ => h.block k hk⟩
theorem Ch.below {S : List Nat} {a b : World} (h : Ch S a b) {B : Nat} (hB : B ≤ a.heap.size) (hS : ∀ x, x ∈ S → B ≤ x) : Below B a b :=
  ⟨h.os, h.tape, h.output, h.size, fun k hk => h.block k (by omega) fun hm => by have := hS k hm; omega⟩
theorem Ch.belowNil {a b : World} (h : Ch [] a b) : Below a.heap.size a b := h.below (Nat.le_refl _) (fun x hx => by cases hx)
theorem Ch.grown {S : List Nat} {a w w' : World} {row : Option Nat} (h : Ch S a w) (hg : w.grownBy w' row) (hr : ∀ k, row = some k → k ∈ S ∨ a.heap.size ≤ k) : Ch S a w' :=
  ⟨hg.os.trans h.os, hg.tape.trans h.tape, hg.output.trans h.output, Nat.le_trans h.size hg.size, fun k hk hS =>
    (hg.block k (Nat.lt_of_lt_of_le hk h.size) (fun e => by rcases hr k e.symm with h' | h'; exact hS h'; omega)).trans (h.block k hk hS)⟩
theorem Blk.ch {S : List Nat} {w w' : World} {b : Nat} {T : TypeId} {cs : List Value} (h : Blk w b T cs) (k : Ch S w w') (hb : b ∉ S) : Blk w' b T cs := by
  have hl := h.lt
  unfold Blk at h ⊢
  rw [k.block b hl hb]; exact h
theorem Ch.cell {S : List Nat} {w w' : World} (k : Ch S w w') {p : Addr} (hl : p.block < w.heap.size) (hb : p.block ∉ S) : w'.cell? p = w.cell? p :=
  World.cell?_of_block (w := w) (k.block p.block hl hb)
theorem Ch.frozen {S : List Nat} {w w' : World} (k : Ch S w w') {p : Addr} (hl : p.block < w.heap.size) (hb : p.block ∉ S) : w'.frozen? p = w.frozen? p :=
  World.frozen?_of_block (w := w) (k.block p.block hl hb)


/-- Draws alone. -/
def Dr (w w' : World) : Prop := ∃ n, w' = w.drewN n
theorem Dr.refl (w : World) : Dr w w := ⟨0, rfl⟩
theorem Dr.drew {a w : World} (h : Dr a w) : Dr a w.drew := by obtain ⟨n, rfl⟩ := h; exact ⟨n + 1, rfl⟩
theorem Dr.drewN {a w : World} (h : Dr a w) (m : Nat) : Dr a (w.drewN m) := by obtain ⟨n, rfl⟩ := h; exact ⟨n + m, by simp⟩
theorem Dr.trans {a b c : World} (h : Dr a b) (k : Dr b c) : Dr a c := by obtain ⟨n, rfl⟩ := h; obtain ⟨m, rfl⟩ := k; exact ⟨n + m, by simp⟩
theorem Dr.ch {a b : World} (h : Dr a b) (S : List Nat) : Ch S a b := by obtain ⟨n, rfl⟩ := h; exact (Ch.refl S a).drewN n

theorem setRow_ch {w : World} {g : Nat} {t : TypeId} {cs : List Value} (h : Blk w g t cs) (cs' : List Value) : Blk (w.setRow g cs'.toArray) g t cs' ∧ Ch [g] w (w.setRow g cs'.toArray) := by
  constructor
  · exact setRow_heap w g _ _ t _ h
  · exact ⟨rfl, rfl, rfl, by simp [World.setRow], fun k hk hS => setRow_other w g k _ (fun e => hS (by simp [e]))⟩

/-- copy into a block known whole. -/
theorem wpList_copy_blk {P : Program} {w : World} {ops : Array Oper} {rest : List Oper} {o : Oper} {a : Act} {Q : Exit → Act → World → Prop} (hgd : o.guard = none) (d s : Operand) (dT sT : TypeId)
    (ho : o.op = .call { callee := .builtin .copy, args := #[d, s], argTypes := #[dT, sT] }) (elem : TypeId) (hu : P.underlying dT = some (.slice elem)) (hsz : (P.info? elem).map (·.size) = some 1)
    (dp sp : Option Addr) (dLen dCap sLen sCap : Nat) (hd : a.eval d = .slice dp dLen dCap) (hs : a.eval s = .slice sp sLen sCap)
    (g off : Nat) (cur : List Value) (t : TypeId) (hg : Blk w g t cur) (cs : List Value) (hn : cs.length = Nat.min sLen dLen)
    (hpos : 0 < cs.length → dp = some ⟨g, off, none⟩ ∧ ∃ ad, sp = some ad ∧ ∀ j v, cs[j]? = some v → w.cell? (ad.add j) = some v)
    (hfit : off + cs.length ≤ cur.length) (h1 : ∀ v ∈ cs, v.oneCell' = true)
    (h : ∀ w', Hid (Blk w' g t (splice cur off cs)) → Ch [g] w w' → wpList P ops Q rest (a.put o.dst (goInt cs.length)) w') :
    wpList P ops Q (o :: rest) a w := by
  by_cases h0 : cs.length = 0
  · obtain rfl : cs = [] := List.eq_nil_of_length_eq_zero h0
    refine wpList_copy_nothing hgd d s dT sT ho elem hu hsz dp sp dLen dCap sLen sCap hd hs (by simpa using hn.symm) ?_
    exact h w (show Blk w g t (splice cur off []) by simpa [splice] using hg) (Ch.refl _ _)
  · obtain ⟨rfl, ad, rfl, hsrc⟩ := hpos (by omega)
    refine wpList_copy_own hgd d s dT sT ho elem hu hsz g off dLen dCap ad sLen sCap hd hs cur.toArray t hg cs hn hsrc (by simpa using hfit) h1 ?_
    have := setRow_ch hg (splice cur off cs)
    simp only [splice] at this h ⊢
    exact h _ this.1 this.2

theorem quiet_of1 {P : Program} {f : FuncId} {args : Array Value} {w : World} {x : Nat} {v : Value}
    (h : Calls P f args (w.drewN x) fun e w' => e = .returned v ∧ Dr (w.drewN x) w') : Calls P f args (w.drewN x) fun e w'' => e = .returned v ∧ ∃ n, w'' = w.drewN n :=
  h.mono fun _ _ ⟨he, m, hm⟩ => ⟨he, x + m, by rw [hm]; simp⟩
theorem quiet_of2 {P : Program} {f : FuncId} {args : Array Value} {w : World} {a x : Nat} {v : Value}
    (h : Calls P f args (w.drewN (a + x)) fun e w' => e = .returned v ∧ Dr (w.drewN (a + x)) w') : Calls P f args (w.drewN (a + x)) fun e w'' => e = .returned v ∧ ∃ n, w'' = w.drewN (a + n) :=
  h.mono fun _ _ ⟨he, m, hm⟩ => ⟨he, x + m, by rw [hm]; simp [Nat.add_assoc]⟩

theorem Blk.dr {w W : World} (h : Dr w W) {b : Nat} {T : TypeId} {cs : List Value} (hb : Blk w b T cs) : Blk W b T cs := by obtain ⟨n, rfl⟩ := h; exact hb
theorem Dr.cell {w W : World} (h : Dr w W) (a : Addr) : W.cell? a = w.cell? a := by obtain ⟨n, rfl⟩ := h; rfl
theorem Dr.frozen {w W : World} (h : Dr w W) (a : Addr) : W.frozen? a = w.frozen? a := by obtain ⟨n, rfl⟩ := h; rfl
theorem Dr.heap {w W : World} (h : Dr w W) : W.heap = w.heap := by obtain ⟨n, rfl⟩ := h; rfl

/-- From here on the world is any one of which Φ holds. -/
theorem wp_gen {P : Program} {c : Code} {Q : Exit → Act → World → Prop} {a : Act} {w : World} (Φ : World → Prop) (hΦ : Φ w) (h : ∀ W, Φ W → c.wp P Q a W) : c.wp P Q a w := h w hΦ
theorem wpList_gen {P : Program} {ops : Array Oper} {l : List Oper} {Q : Exit → Act → World → Prop} {a : Act} {w : World} (Φ : World → Prop) (hΦ : Φ w) (h : ∀ W, Φ W → wpList P ops Q l a W) : wpList P ops Q l a w := h w hΦ

/-! ### A map keyed by texts -/

/-- Block b is a map that holds just the pairs l, in the order in which they came. -/
def MapAt (w : World) (b : Nat) (l : List (ByteArray × Value)) : Prop :=
  ∃ (es : Array MapEntry) (clock : Nat), w.heap[b]? = some (.map es clock) ∧ es.toList.map (fun e => (e.key, e.val)) = l.map (fun p => (Value.string p.1, p.2))

def findAt (k : ByteArray) : List (ByteArray × Value) → Nat → Option (Nat × Value)
  | [], _ => none
  | p :: r, i => if k == p.1 then some (i, p.2) else findAt k r (i + 1)

/-- What a map tells of a key. -/
def lookL (l : List (ByteArray × Value)) (k : ByteArray) : Option Value := (findAt k l 0).map (·.2)

/-- A map behind a store. -/
def putL : List (ByteArray × Value) → ByteArray → Value → List (ByteArray × Value)
  | [], k, v => [(k, v)]
  | p :: r, k, v => if k == p.1 then (k, v) :: r else p :: putL r k v

theorem findNow_str (k : ByteArray) : ∀ (es : List MapEntry) (l : List (ByteArray × Value)) (i : Nat), es.map (fun e => (e.key, e.val)) = l.map (fun p => (Value.string p.1, p.2)) →
    Instr.findNow .string (.string k) es i = some (findAt k l i)
  | [], [], i, _ => rfl
  | [], p :: r, i, h => by simp at h
  | e :: es, [], i, h => by simp at h
  | e :: es, p :: r, i, h => by
    simp only [List.map_cons, List.cons.injEq, Prod.mk.injEq] at h
    obtain ⟨⟨h1, h2⟩, h3⟩ := h
    simp only [Instr.findNow, h1, Instr.sameNow, findAt]
    by_cases hk : (k == p.1) = true
    · simp [hk, h2]
    · simp only [Bool.not_eq_true] at hk
      simp only [hk]
      exact findNow_str k es r (i + 1) h3

theorem findAt_shift (k : ByteArray) : ∀ (l : List (ByteArray × Value)) (i j : Nat), (findAt k l (i + j)) = (findAt k l i).map fun x => (x.1 + j, x.2)
  | [], _, _ => rfl
  | p :: r, i, j => by
    simp only [findAt]
    split
    · rfl
    · rw [show i + j + 1 = i + 1 + j by omega]; exact findAt_shift k r (i + 1) j

section
variable {P : Program} {T K E : TypeId}

theorem run_checkKey_str (hK : P.underlying K = some .string) (e : Bool) (k : ByteArray) (w : World) : (Instr.checkKey e 10000 K (.string k)).run P w = .ok () w := by
  have key : ∀ n, (Instr.checkKey e (n + 1) K (.string k)).run P w = .ok () w := fun n => by
    rw [Instr.checkKey]
    simp [run_underlying hK]
  exact key 9999

theorem run_findKey_str (hK : P.underlying K = some .string) (k : ByteArray) (es : Array MapEntry) (l : List (ByteArray × Value))
    (hl : es.toList.map (fun e => (e.key, e.val)) = l.map (fun p => (Value.string p.1, p.2))) (w : World) :
    (Instr.findKey K (.string k) es.toList).run P w = .ok (findAt k l 0) w := by
  simp [Instr.findKey, run_underlying hK, findNow_str k _ l 0 hl]

theorem run_look (hT : P.underlying T = some (.map K E)) (hK : P.underlying K = some .string) {w : World} {b : Nat} {l : List (ByteArray × Value)} (h : MapAt w b l) (k : ByteArray) {v : Value} (hv : lookL l k = some v) :
    (Instr.lookup T (.map (some b)) (.string k) false).run P w = .ok v w := by
  obtain ⟨es, clock, hb, hl⟩ := h
  unfold lookL at hv
  cases hf : findAt k l 0 with
  | none => simp [hf] at hv
  | some x =>
    obtain ⟨i, v'⟩ := x
    simp [hf] at hv; subst hv
    simp [Instr.lookup, run_underlying hT, getObj, Sem.run, hb, run_checkKey_str hK, run_findKey_str hK k es l hl, hf]

theorem run_look_none (hT : P.underlying T = some (.map K E)) (hK : P.underlying K = some .string) {w : World} {b : Nat} {l : List (ByteArray × Value)} (h : MapAt w b l) (k : ByteArray) {z : Value}
    (hz : ∀ w, (zeroValue E).run P w = .ok z w) (hv : lookL l k = none) :
    (Instr.lookup T (.map (some b)) (.string k) false).run P w = .ok z w := by
  obtain ⟨es, clock, hb, hl⟩ := h
  unfold lookL at hv
  have hf : findAt k l 0 = none := by simpa using hv
  simp [Instr.lookup, run_underlying hT, getObj, Sem.run, hb, run_checkKey_str hK, run_findKey_str hK k es l hl, hf, hz]
end

end Go.Proofs.YtfnncdngfggcjaaGreatDoor
