/- A store into a map keyed by texts. -/
import Derived.Test.YtfnncdngfggcjaaGreatDoorFil
import Derived.MapKept
namespace Go.Proofs.YtfnncdngfggcjaaGreatDoor
open Go.RowKit

theorem ba_beq (a b : ByteArray) : (a == b) = true ↔ a = b := by
  cases a with | mk x => cases b with | mk y =>
  show (x == y) = true ↔ _
  simp
theorem ba_bne {a b : ByteArray} (h : a ≠ b) : (a == b) = false := by
  cases e : (a == b) with
  | false => rfl
  | true => exact absurd ((ba_beq a b).1 e) h

def putObj (k : ByteArray) (v : Value) : Option Obj → Obj
  | some (.map es clock) => match Instr.findNow .string (.string k) es.toList 0 with
    | some (some (i, _)) => .map (es.modify i fun e => { e with key := .string k, val := v }) clock
    | _ => .map (es.push { key := .string k, val := v, born := clock }) (clock + 1)
  | _ => .map #[] 0
/-- The world behind a store into a map. -/
def putW (w : World) (b : Nat) (k : ByteArray) (v : Value) : World := setO w b (putObj k v w.heap[b]?)

theorem findAt_none {k : ByteArray} : ∀ {l : List (ByteArray × Value)} (i : Nat), k ∉ l.map (·.1) → findAt k l i = none
  | [], _, _ => rfl
  | p :: r, i, h => by
    simp only [List.map_cons, List.mem_cons, not_or] at h
    simp only [findAt, ba_bne h.1]
    exact findAt_none (i + 1) h.2
theorem lookL_none {l : List (ByteArray × Value)} {k : ByteArray} (h : k ∉ l.map (·.1)) : lookL l k = none := by
  unfold lookL; rw [findAt_none 0 h]; rfl
theorem putL_none {k : ByteArray} {v : Value} : ∀ {l : List (ByteArray × Value)}, k ∉ l.map (·.1) → putL l k v = l ++ [(k, v)]
  | [], _ => rfl
  | p :: r, h => by
    simp only [List.map_cons, List.mem_cons, not_or] at h
    simp only [putL, ba_bne h.1, List.cons_append]
    rw [if_neg (by simp), putL_none h.2]
theorem lookL_cons (p : ByteArray × Value) (r : List (ByteArray × Value)) (k : ByteArray) : lookL (p :: r) k = if k = p.1 then some p.2 else lookL r k := by
  unfold lookL
  by_cases h : k = p.1
  · have : (k == p.1) = true := (ba_beq _ _).2 h
    rw [if_pos h]; simp only [findAt, this]; rfl
  · simp only [findAt, ba_bne h, if_neg h]
    rw [show (0 + 1) = (0 : Nat) + 1 from rfl, findAt_shift]
    simp [Option.map_map, Function.comp_def]
theorem lookL_get {l : List (ByteArray × Value)} {i : Nat} {k : ByteArray} {v : Value} (hn : (l.map (·.1)).Nodup) (h : l[i]? = some (k, v)) : lookL l k = some v := by
  induction l generalizing i with
  | nil => simp at h
  | cons p r ih =>
    rw [lookL_cons]
    rw [List.map_cons, List.nodup_cons] at hn
    cases i with
    | zero => simp at h; subst h; simp
    | succ i =>
      simp at h
      have hm : k ∈ r.map (·.1) := List.mem_map.2 ⟨(k, v), List.mem_of_getElem? h, rfl⟩
      have hkp : k ≠ p.1 := fun e => hn.1 (e ▸ hm)
      rw [if_neg hkp]
      exact ih hn.2 h
theorem putL_get {k : ByteArray} {v v' : Value} : ∀ {l : List (ByteArray × Value)} {i : Nat}, (l.map (·.1)).Nodup → l[i]? = some (k, v) → putL l k v' = l.set i (k, v')
  | [], _, _, h => by simp at h
  | p :: r, i, hn, h => by
    rw [List.map_cons, List.nodup_cons] at hn
    cases i with
    | zero =>
      simp at h; subst h
      have : (k == k) = true := (ba_beq _ _).2 rfl
      simp [putL, this]
    | succ i =>
      simp at h
      have hm : k ∈ r.map (·.1) := List.mem_map.2 ⟨(k, v), List.mem_of_getElem? h, rfl⟩
      have hkp : k ≠ p.1 := fun e => hn.1 (e ▸ hm)
      simp only [putL, ba_bne hkp]
      rw [if_neg (by simp), putL_get hn.2 h]
      rfl

theorem findAt_spec {k : ByteArray} : ∀ {l : List (ByteArray × Value)} {i j : Nat} {v : Value}, findAt k l i = some (j, v) → ∃ m, j = i + m ∧ l[m]? = some (k, v) ∧ ∀ v', putL l k v' = l.set m (k, v')
  | [], _, _, _, h => by simp [findAt] at h
  | p :: r, i, j, v, h => by
    by_cases hk : k = p.1
    · have : (k == p.1) = true := (ba_beq _ _).2 hk
      simp only [findAt, this, if_true, Option.some.injEq, Prod.mk.injEq] at h
      refine ⟨0, by omega, by simp [hk, ← h.2], fun v' => by simp [putL, this]⟩
    · simp only [findAt, ba_bne hk] at h
      obtain ⟨m, h1, h2, h3⟩ := findAt_spec (i := i + 1) h
      refine ⟨m + 1, by omega, by simpa using h2, fun v' => ?_⟩
      simp only [putL, ba_bne hk]
      rw [if_neg (by simp), h3]; rfl
theorem putL_of_none {k : ByteArray} {v' : Value} : ∀ {l : List (ByteArray × Value)} {i : Nat}, findAt k l i = none → putL l k v' = l ++ [(k, v')]
  | [], _, _ => rfl
  | p :: r, i, h => by
    by_cases hk : (k == p.1) = true
    · simp [findAt, hk] at h
    · simp only [Bool.not_eq_true] at hk
      simp only [findAt, hk] at h
      simp only [putL, hk, List.cons_append]
      rw [if_neg (by simp), putL_of_none (by simpa using h)]

section
variable {P : Program} {T K E : TypeId}
theorem run_put (hT : P.underlying T = some (.map K E)) (hK : P.underlying K = some .string) {w : World} {b : Nat} {l : List (ByteArray × Value)} (h : MapAt w b l) (k : ByteArray) (v : Value) :
    (Instr.mapUpdate T (.map (some b)) (.string k) v).run P w = .ok () (putW w b k v) := by
  obtain ⟨es, clock, hb, hl⟩ := h
  have hf := findNow_str k es.toList l 0 hl
  cases hq : findAt k l 0 with
  | none =>
    rw [hq] at hf
    simp [Instr.mapUpdate, run_underlying hT, MapKept.run_getObj_map hb, run_checkKey_str hK, MapKept.run_findKey hK hf, MapKept.run_setObj_map _ hb, Result.andThen, putW, putObj, hb, hf, setO]
  | some x =>
    obtain ⟨i, v0⟩ := x
    rw [hq] at hf
    obtain ⟨m, rfl, h2, _⟩ := findAt_spec hq
    have hkey : (es[0 + m]?).map (·.key) = some (.string k) := by
      have := congrArg (fun (z : List (Value × Value)) => (z[m]?).map (·.1)) hl
      simp only [List.getElem?_map, h2, Option.map_map] at this
      simpa using this
    have hsb : Instr.sameBits 10000 (.string k) (.string k) = true := by
      have : (k == k) = true := (ba_beq _ _).2 rfl
      rw [Instr.sameBits]; exact this
    simp only [Nat.zero_add] at hf hkey
    simp [Instr.mapUpdate, run_underlying hT, MapKept.run_getObj_map hb, run_checkKey_str hK, MapKept.run_findKey hK hf, MapKept.run_setObj_map _ hb, Result.andThen, putW, putObj, hb, hf, setO, hkey, Instr.keyThatStays, hsb]
end
theorem putW_size (w : World) (b : Nat) (k : ByteArray) (v : Value) : (putW w b k v).heap.size = w.heap.size := setO_size _ _ _
theorem MapAt.put {w : World} {b : Nat} {l : List (ByteArray × Value)} (h : MapAt w b l) (k : ByteArray) (v : Value) : MapAt (putW w b k v) b (putL l k v) := by
  obtain ⟨es, clock, hb, hl⟩ := h
  have hlt := (Array.getElem?_eq_some_iff.1 hb).1
  have hf := findNow_str k es.toList l 0 hl
  cases hq : findAt k l 0 with
  | none =>
    rw [hq] at hf
    refine ⟨es.push { key := .string k, val := v, born := clock }, clock + 1, (by
      have e : putW w b k v = setO w b (.map (es.push { key := .string k, val := v, born := clock }) (clock + 1)) := by unfold putW; rw [hb]; simp only [putObj, hf]
      rw [e]; simp [setO, hlt]), ?_⟩
    simp [hl, putL_of_none hq]
  | some x =>
    obtain ⟨i, v0⟩ := x
    rw [hq] at hf
    obtain ⟨m, rfl, h2, h3⟩ := findAt_spec hq
    simp only [Nat.zero_add] at hf
    refine ⟨es.modify m fun e => { e with key := .string k, val := v }, clock, (by
      have e : putW w b k v = setO w b (.map (es.modify m fun e => { e with key := .string k, val := v }) clock) := by unfold putW; rw [hb]; simp only [putObj, hf]
      rw [e]; simp [setO, hlt]), ?_⟩
    rw [h3]
    apply List.ext_getElem?
    intro n
    have hn := congrArg (fun (z : List (Value × Value)) => z[n]?) hl
    simp only [List.getElem?_map] at hn
    have hlen : es.size = l.length := by simpa using congrArg List.length hl
    simp only [List.getElem?_map, Array.toList_modify, List.getElem?_modify, List.getElem?_set]
    by_cases e : m = n
    · subst e
      have hml : m < l.length := (List.getElem?_eq_some_iff.1 h2).1
      simp [hml, hlen]
    · simp [e] at hn ⊢
      exact hn
theorem Ch.put {S : List Nat} {a w : World} (h : Ch S a w) {b : Nat} (hp : b ∈ S ∨ a.heap.size ≤ b) (k : ByteArray) (v : Value) : Ch S a (putW w b k v) := h.setO hp _
end Go.Proofs.YtfnncdngfggcjaaGreatDoor
