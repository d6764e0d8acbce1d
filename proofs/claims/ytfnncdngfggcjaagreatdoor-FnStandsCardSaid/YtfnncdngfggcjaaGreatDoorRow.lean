/- A slice that owns its row (Row), what an append does to it; the cells of the package's structs. -/
import Derived.Test.YtfnncdngfggcjaaGreatDoorBase
import Derived.Deep.AppendLies
namespace Go.Proofs.YtfnncdngfggcjaaGreatDoor
open Go.RowKit

/-- The slice v owns the one-cell elements xs of type T. -/
def Row (w : World) (T : TypeId) (v : Value) (xs : List Value) : Prop := w.ownsRow 0 T 1 v xs.length xs

theorem Row.nil (w : World) (T : TypeId) : Row w T (.slice none 0 0) [] := ⟨rfl, .inl ⟨rfl, rfl⟩⟩
theorem Row.blk {w : World} {T : TypeId} {v : Value} {xs : List Value} (h : Row w T v xs) {g : Nat} (hg : v.ownBlock = some g) : ∃ cur cap, v = .slice (some ⟨g, 0, none⟩) xs.length cap ∧ Blk w g T cur ∧ cur.take xs.length = xs ∧ xs.length ≤ cap ∧ cur.length = cap := by
  obtain ⟨_, h | ⟨g', cap, cur, rfl, _, hh, hn, _, hs, ht⟩⟩ := h
  · rw [h.1] at hg; cases hg
  · have : g' = g := Option.some.inj hg
    subst this
    refine ⟨cur.toList, cap, rfl, ?_, by simpa using ht, hn, by simpa using hs⟩
    unfold Blk; simpa using hh
theorem Row.lt {w : World} {T : TypeId} {v : Value} {xs : List Value} (h : Row w T v xs) {g : Nat} (hg : v.ownBlock = some g) : g < w.heap.size := by
  obtain ⟨cur, cap, _, hb, _⟩ := h.blk hg
  exact hb.lt
theorem Row.ofBlk {w : World} {T : TypeId} {g cap : Nat} {xs spare : List Value} (h : Blk w g T (xs ++ spare)) (hc : (xs ++ spare).length = cap) (hm : cap ≤ maxLen) : Row w T (.slice (some ⟨g, 0, none⟩) xs.length cap) xs := by
  refine ⟨by simp, .inr ⟨g, cap, (xs ++ spare).toArray, rfl, Nat.zero_le _, h, by rw [← hc]; simp, hm, by simp [← hc], by simp⟩⟩
theorem Row.same {w w' : World} {T : TypeId} {v : Value} {xs : List Value} (h : Row w T v xs) (hh : ∀ g, v.ownBlock = some g → w'.heap[g]? = w.heap[g]?) : Row w' T v xs := by
  obtain ⟨h1, h | ⟨g, cap, cur, rfl, hb, hg, r⟩⟩ := h
  · exact ⟨h1, .inl h⟩
  · exact ⟨h1, .inr ⟨g, cap, cur, rfl, hb, by rw [hh g rfl]; exact hg, r⟩⟩
theorem Row.ch {w w' : World} {T : TypeId} {v : Value} {xs : List Value} (h : Row w T v xs) {S : List Nat} (k : Ch S w w') (hS : ∀ g, v.ownBlock = some g → g ∉ S) : Row w' T v xs :=
  h.same fun g hg => k.block g (h.lt hg) (hS g hg)
theorem Row.alloc {w : World} {T : TypeId} {v : Value} {xs : List Value} (h : Row w T v xs) (o : Obj) : Row (w.alloc o) T v xs := h.ch ((Ch.refl [] w).alloc o) (fun _ _ => by simp)
theorem Row.drew {w : World} {T : TypeId} {v : Value} {xs : List Value} (h : Row w T v xs) : Row w.drew T v xs := h
theorem Row.drewN {w : World} {T : TypeId} {v : Value} {xs : List Value} (h : Row w T v xs) (n : Nat) : Row (w.drewN n) T v xs := h
theorem Row.setCell {w : World} {T : TypeId} {v : Value} {xs : List Value} (h : Row w T v xs) {a : Addr} (hne : ∀ g, v.ownBlock = some g → g ≠ a.block) (u : Value) : Row (w.setCell a u) T v xs :=
  h.same fun g hg => Below.heap_setCell _ _ _ _ (hne g hg)
/-- Its block is none of another type. -/
theorem Row.ne {w : World} {T : TypeId} {v : Value} {xs : List Value} (h : Row w T v xs) {b : Nat} {T' : TypeId} {cs : List Value} (hb : Blk w b T' cs) (ht : T ≠ T') : ∀ g, v.ownBlock = some g → g ≠ b := by
  intro g hg
  obtain ⟨cur, cap, _, hb', _⟩ := h.blk hg
  exact hb'.ne hb ht
theorem Row.form {w : World} {T : TypeId} {v : Value} {xs : List Value} (h : Row w T v xs) : (v = .slice none 0 0 ∧ xs = []) ∨ ∃ g cap, v = .slice (some ⟨g, 0, none⟩) xs.length cap ∧ xs.length ≤ cap ∧ g < w.heap.size ∧ ∀ j u, xs[j]? = some u → w.cell? ⟨g, j, none⟩ = some u := by
  obtain ⟨h1, h | ⟨g, cap, cur, rfl, hb, hg, hn, hm, hs, ht⟩⟩ := h
  · exact .inl ⟨h.1, List.eq_nil_of_length_eq_zero h.2⟩
  · refine .inr ⟨g, cap, rfl, hn, (Array.getElem?_eq_some_iff.1 hg).1, fun j u hu => ?_⟩
    have hj : j < xs.length := (List.getElem?_eq_some_iff.1 hu).1
    simp only [World.cell?, hg]
    rw [← ht] at hu
    simp only [Nat.mul_one] at hu
    rw [List.getElem?_take, if_pos hj] at hu
    simpa using hu

section
variable {P : Program} {w : World} {ops : Array Oper} {o : Oper} {a : Act} {Q : Exit → Act → World → Prop}

theorem ch_of_grown {w w' : World} {r : Option Nat} (h : w.grownBy w' r) : Ch r.toList w w' :=
  ⟨h.os, h.tape, h.output, h.size, fun k hk hn => h.block k hk (fun e => hn (by rw [← e]; simp))⟩

/-- Append of one element. -/
theorem wpList_append_row {rest : List Oper} (hgd : o.guard = none) (s x : Operand) (t : TypeId) (ho : o.op = .call { callee := .builtin .append, args := #[s, x], argTypes := #[t, t] })
    (T : TypeId) (z : Value) (bytes : Nat) (ht : P.underlying t = some (.slice T)) (hinfo : (P.info? T).map (fun i => (i.zero, i.size, i.bytes)) = some (some z, 1, bytes)) (hz1 : z.cells.size = 1)
    (v : Value) (xs : List Value) (hs : a.eval s = v) (hrow : Row w T v xs) (ad : Addr) (c : Nat) (u : Value) (hx : a.eval x = .slice (some ad) 1 c) (hu : w.cell? ad = some u) (h1 : u.oneCell' = true)
    (hlen : xs.length + 1 ≤ 1000000) (hby : bytes ≤ 1000)
    (h : ∀ g cap w', Row w' T (.slice (some ⟨g, 0, none⟩) (xs.length + 1) cap) (xs ++ [u]) → Ch v.ownBlock.toList w w' → (v.ownBlock = some g ∨ g = w.heap.size) → g < w'.heap.size → wpList P ops Q rest (a.put o.dst (.slice (some ⟨g, 0, none⟩) (xs.length + 1) cap)) w') :
    wpList P ops Q (o :: rest) a w := by
  obtain ⟨i, hi, hz⟩ := Option.map_eq_some_iff.1 hinfo
  simp only [Prod.mk.injEq] at hz
  refine wpList_append_lies w hgd s x t ho 0 T i z 1 bytes ht hi hz.1 hz.2.1 hz.2.2 hz1 (by decide) v xs.length xs hs hrow ad 1 c [u] hx (by simp) ?_ (by simp [h1]) (by decide) (by unfold maxLen; omega) ?_ (Nat.zero_le _) _ rfl ?_
  · intro j y hy
    cases j with
    | zero => simp at hy; subst hy; simpa [Addr.add] using hu
    | succ j => simp at hy
  · have : (xs.length + 1) * bytes ≤ 1000000 * 1000 := Nat.mul_le_mul hlen hby
    omega
  · intro g cap w' h2 h3 h4 h5
    exact h g cap w' (by unfold Row; simpa using h2) (ch_of_grown h3) h4 h5
theorem step_append_row {K : Act → World → Prop} {E : Prop} (hgd : o.guard = none) (s x : Operand) (t : TypeId) (ho : o.op = .call { callee := .builtin .append, args := #[s, x], argTypes := #[t, t] })
    (T : TypeId) (z : Value) (bytes : Nat) (ht : P.underlying t = some (.slice T)) (hinfo : (P.info? T).map (fun i => (i.zero, i.size, i.bytes)) = some (some z, 1, bytes)) (hz1 : z.cells.size = 1)
    (v : Value) (xs : List Value) (hs : a.eval s = v) (hrow : Row w T v xs) (ad : Addr) (c : Nat) (u : Value) (hx : a.eval x = .slice (some ad) 1 c) (hu : w.cell? ad = some u) (h1 : u.oneCell' = true)
    (hlen : xs.length + 1 ≤ 1000000) (hby : bytes ≤ 1000)
    (h : ∀ g cap w', Row w' T (.slice (some ⟨g, 0, none⟩) (xs.length + 1) cap) (xs ++ [u]) → Ch v.ownBlock.toList w w' → (v.ownBlock = some g ∨ g = w.heap.size) → g < w'.heap.size → K (a.put o.dst (.slice (some ⟨g, 0, none⟩) (xs.length + 1) cap)) w') :
    if Region.wanted o (yielded ops a.tmps) = true then Oper.wp P o a w K Q else E := by
  obtain ⟨i, hi, hz⟩ := Option.map_eq_some_iff.1 hinfo
  simp only [Prod.mk.injEq] at hz
  refine step_append_lies w hgd s x t ho 0 T i z 1 bytes ht hi hz.1 hz.2.1 hz.2.2 hz1 (by decide) v xs.length xs hs hrow ad 1 c [u] hx (by simp) ?_ (by simp [h1]) (by decide) (by unfold maxLen; omega) ?_ (Nat.zero_le _) _ rfl ?_
  · intro j y hy
    cases j with
    | zero => simp at hy; subst hy; simpa [Addr.add] using hu
    | succ j => simp at hy
  · have : (xs.length + 1) * bytes ≤ 1000000 * 1000 := Nat.mul_le_mul hlen hby
    omega
  · intro g cap w' h2 h3 h4 h5
    exact h g cap w' (by unfold Row; simpa using h2) (ch_of_grown h3) h4 h5
end
end Go.Proofs.YtfnncdngfggcjaaGreatDoor
