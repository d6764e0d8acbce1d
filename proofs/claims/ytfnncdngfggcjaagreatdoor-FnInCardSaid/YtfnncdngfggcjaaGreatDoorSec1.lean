/- Contracts of newSection, newKey and inSlice. -/
import Derived.Test.YtfnncdngfggcjaaGreatDoorRow
import Derived.Test.YtfnncdngfggcjaaGreatDoorPure2
namespace Go.Proofs.YtfnncdngfggcjaaGreatDoor
open Go.RowKit

theorem MapAt.new (w : World) : MapAt (w.alloc (.map #[] 0)) w.heap.size [] := ⟨#[], 0, by show (w.heap.push _)[w.heap.size]? = _; simp, rfl⟩
theorem MapAt.lt {w : World} {b : Nat} {l : List (ByteArray × Value)} (h : MapAt w b l) : b < w.heap.size := by
  obtain ⟨es, c, h, _⟩ := h; exact (Array.getElem?_eq_some_iff.1 h).1
theorem MapAt.same {w w' : World} {b : Nat} {l : List (ByteArray × Value)} (h : MapAt w b l) (hh : w'.heap[b]? = w.heap[b]?) : MapAt w' b l := by
  obtain ⟨es, c, h, r⟩ := h; exact ⟨es, c, by rw [hh]; exact h, r⟩
theorem MapAt.ch {w w' : World} {b : Nat} {l : List (ByteArray × Value)} (h : MapAt w b l) {S : List Nat} (k : Ch S w w') (hb : b ∉ S) : MapAt w' b l := h.same (k.block b h.lt hb)
theorem MapAt.alloc {w : World} {b : Nat} {l : List (ByteArray × Value)} (h : MapAt w b l) (o : Obj) : MapAt (w.alloc o) b l := h.ch ((Ch.refl [] w).alloc o) (by simp)
theorem MapAt.drew {w : World} {b : Nat} {l : List (ByteArray × Value)} (h : MapAt w b l) : MapAt w.drew b l := h
theorem MapAt.ne {w : World} {b : Nat} {l : List (ByteArray × Value)} (h : MapAt w b l) {b' : Nat} {T : TypeId} {cs : List Value} (hb : Blk w b' T cs) : b ≠ b' := by
  rintro rfl
  obtain ⟨es, c, h, _⟩ := h
  unfold Blk at hb; rw [h] at hb; cases hb
theorem MapAt.setCell {w : World} {b : Nat} {l : List (ByteArray × Value)} (h : MapAt w b l) {a : Addr} (hne : b ≠ a.block) (u : Value) : MapAt (w.setCell a u) b l := h.same (Below.heap_setCell _ _ _ _ hne)

abbrev es : ByteArray := ⟨#[]⟩

def secCells (fb : Nat) (com name : ByteArray) (km : Nat) (klv : Value) (kh : Nat) : List Value :=
  [.pointer (some ⟨fb, 0, none⟩), .string com, .string name, .map (some km), klv, .map (some kh), .bool false, .string es]

set_option maxHeartbeats 400000 in
theorem newSection_any (fb : Nat) (name : ByteArray) (w : World) :
    Calls Tryz.prog 103 #[.pointer (some ⟨fb, 0, none⟩), .string name] w fun e w' => ∃ sb km kl kh, e = .returned (.pointer (some ⟨sb, 0, none⟩)) ∧ w.heap.size ≤ sb ∧ w.heap.size ≤ km ∧ w.heap.size ≤ kl ∧ w.heap.size ≤ kh ∧ km ≠ kh ∧
      Blk w' sb 96 (secCells fb es name km (.slice (some ⟨kl, 0, none⟩) 0 10) kh) ∧ MapAt w' km [] ∧ MapAt w' kh [] ∧ Row w' 9 (.slice (some ⟨kl, 0, none⟩) 0 10) [] ∧ Ch [] w w' := by
  have hmm := @run_makeMap Tryz.prog
  have hmk : ∀ W, (Instr.makeSlice 26 (.int .i64 0) (.int .i64 10)).run Tryz.prog W = .ok (.slice (some ⟨W.heap.size, 0, none⟩) 0 10) (W.alloc (.cells #[.string es, .string es, .string es, .string es, .string es, .string es, .string es, .string es, .string es, .string es] 9)) := fun _ => by kernel_rfl
  go_enter Tryz.func103, Tryz.ntmps103
  go_wp2
  go_ret
  refine ⟨w.heap.size + 3, w.heap.size, w.heap.size + 1, w.heap.size + 2, rfl, by omega, by omega, by omega, by omega, by omega, ?_, ?_, ?_, ?_, ?_⟩
  · exact Blk.newM _ 96 (secCells fb es name w.heap.size (.slice (some ⟨w.heap.size + 1, 0, none⟩) 0 10) (w.heap.size + 2)) _ (by simp)
  · exact (((MapAt.new w).alloc _).alloc _).alloc _
  · have := (MapAt.new ((w.alloc (.map #[] 0)).alloc (.cells #[.string es, .string es, .string es, .string es, .string es, .string es, .string es, .string es, .string es, .string es] 9))).alloc (.cells (secCells fb es name w.heap.size (.slice (some ⟨w.heap.size + 1, 0, none⟩) 0 10) (w.heap.size + 2)).toArray 96)
    simp only [World.size_alloc] at this
    exact this
  · refine Row.alloc (Row.alloc ?_ _) _
    exact Row.ofBlk (xs := []) (Blk.newM (w.alloc (.map #[] 0)) 9 [.string es, .string es, .string es, .string es, .string es, .string es, .string es, .string es, .string es, .string es] (w.heap.size + 1) (by simp)) rfl (by unfold maxLen; omega)
  · exact ((((Ch.refl [] w).alloc _).alloc _).alloc _).alloc _

def keyCells (sb : Nat) (com name val : ByteArray) (auto shadow : Bool) (shv : Value) : List Value :=
  [.pointer (some ⟨sb, 0, none⟩), .string com, .string name, .string val, .bool auto, .bool false, .bool shadow, shv, .slice none 0 0]

set_option maxHeartbeats 400000 in
theorem newKey_any (sb : Nat) (name val : ByteArray) (w : World) :
    Calls Tryz.prog 105 #[.pointer (some ⟨sb, 0, none⟩), .string name, .string val] w fun e w' => e = .returned (.pointer (some ⟨w.heap.size, 0, none⟩)) ∧ w.alloc (.cells (keyCells sb es name val false false (.slice none 0 0)).toArray 107) = w' := by
  go_enter Tryz.func105, Tryz.ntmps105
  go_wp2
  go_ret
  exact ⟨rfl, rfl⟩

def strs (l : List ByteArray) : List Value := l.map .string

theorem strs_get {l : List ByteArray} {k : Nat} (h : k < l.length) : (strs l)[k]? = some (.string l[k]) := by
  unfold strs; rw [List.getElem?_map, List.getElem?_eq_getElem h]; rfl

set_option maxHeartbeats 1000000 in
theorem inSlice_any (name : ByteArray) (v : Value) (l : List ByteArray) (b : Bool) (hb : b = true ↔ name ∈ l) (w : World) (hv : Row w 9 v (strs l)) (hl : l.length ≤ 1000000) :
    Calls Tryz.prog 102 #[.string name, v] w fun e w' => e = .returned (.bool b) ∧ w = w' := by
  rcases hv.form with ⟨rfl, h0⟩ | ⟨g, cap, rfl, hcap, _, hc⟩
  · have : l = [] := by simpa [strs] using h0
    subst this
    have hb' : b = false := by cases b <;> simp_all
    subst hb'
    clear hb
    go_enter Tryz.func102, Tryz.ntmps102
    go_wp2
    refine wp_loop_rounds 1 ?_
    rw [rounds_succ]
    go_wp2
    go_ret
    exact ⟨rfl, rfl⟩
  · have hsl : (strs l).length = l.length := by simp [strs]
    rw [hsl]
    have HC : Hid (∀ k (h : k < l.length), w.cell? ⟨g, k, none⟩ = some (.string l[k])) := fun k h => hc k _ (strs_get h)
    have HBB := Lib.hid hb
    clear hc hv hcap hsl hb
    go_enter Tryz.func102, Tryz.ntmps102
    go_wp2
    go_loop [9] (fun i => ∃ k : Nat, k ≤ l.length ∧ i = .int .i64 k ∧ Hid (∀ j (h : j < l.length), j < k → name ≠ l[j])) (fun i => l.length - (intOf i).toNat)
    case atStart => exact ⟨0, Nat.zero_le _, rfl, fun j _ hj => absurd hj (Nat.not_lt_zero _)⟩
    case round =>
      obtain ⟨k, hk, rfl, hno⟩ := hrel
      by_cases hlt : k < l.length
      · have hcell := HC.out k hlt
        by_cases heq : name = l[k]
        · have hbq : (name.toList == l[k].toList) = true := by rw [heq]; simp
          have hfin : Hid (b = true) := HBB.out.2 (by rw [heq]; exact List.getElem_mem hlt)
          clear heq
          go_wp2
          go_ret
          exact ⟨by rw [hfin.out]; rfl, rfl⟩
        · have hbq : (name.toList == l[k].toList) = false := beq_eq_false_iff_ne.2 (fun e => heq (by rw [ba_of_list e, ← ba_of_list (rfl : l[k].toList = l[k].toList)]))
          have hno' : Hid (∀ j (h : j < l.length), j < k + 1 → name ≠ l[j]) := fun j h hj => by
            rcases Nat.lt_or_ge j k with h' | h'
            · exact hno.out j h h'
            · obtain rfl : j = k := by omega
              exact heq
          clear heq hno
          go_wp2
          go_round
          case rel => exact ⟨k + 1, by omega, by go_num, hno'⟩
          case measure => simp [intOf]; omega
      · obtain rfl : k = l.length := by omega
        have hfin : Hid (b = false) := by
          refine (Bool.eq_false_iff.2 fun hb => ?_ : b = false)
          obtain ⟨j, hj, e⟩ := List.getElem_of_mem (HBB.out.1 hb)
          exact hno.out j hj hj e.symm
        clear hno
        go_wp2
        go_ret
        exact ⟨by rw [hfin.out]; rfl, rfl⟩
end Go.Proofs.YtfnncdngfggcjaaGreatDoor
