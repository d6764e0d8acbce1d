/- Contract of Key.Strings at a comma. -/
import Derived.Test.YtfnncdngfggcjaaGreatDoorSt1
import Derived.Test.YtfnncdngfggcjaaGreatDoorLf4
namespace Go.Proofs.YtfnncdngfggcjaaGreatDoor
open Go.RowKit

theorem ext_from (s : ByteArray) (i : Nat) : (s.extract i s.size).data.toList = s.data.toList.drop i := by
  rw [ByteArray.data_extract, Array.toList_extract, List.extract_eq_take_drop, List.take_of_length_le]
  rw [List.length_drop, toList_length]; exact Nat.le_refl _
theorem drop_at {s : ByteArray} {i : Nat} {c : UInt8} (h : s.data.toList[i]? = some c) : s.data.toList.drop i = c :: s.data.toList.drop (i + 1) := by
  obtain ⟨hi, e⟩ := List.getElem?_eq_some_iff.1 h
  rw [List.drop_eq_getElem_cons hi, e]
theorem prefix_at (s : ByteArray) (i : Nat) (c : UInt8) (b : Bool) (h : s.data.toList[i]? = some c) (hb : b = decide (c = 44)) (w : World) :
    Calls Tryz.prog 83 #[.string (s.extract i s.size), .string ⟨#[44]⟩] w fun e w' => e = .returned (.bool b) ∧ w = w' := by
  refine (Tryz.strings_HasPrefix (s.extract i s.size) ⟨#[44]⟩ w).mono ?_
  rintro e w' ⟨rfl, rfl⟩
  refine ⟨?_, rfl⟩
  rw [ext_from, drop_at h, hb]
  by_cases hc : c = 44
  · subst hc; rfl
  · have h2 : decide (c = 44) = false := decide_eq_false hc
    rw [h2]
    unfold Lib.hasPrefix
    have h3 : ¬ ([44] : List UInt8) <+: (c :: s.data.toList.drop (i + 1)) := fun hp => by
      obtain ⟨t, ht⟩ := hp
      exact hc (List.cons.inj ht).1.symm
    simp [List.isPrefixOf, Ne.symm hc]
theorem decode_at (s : ByteArray) (i : Nat) (c : UInt8) (h : s.data.toList[i]? = some c) (hc : c.toNat < 128) (w : World) :
    Calls Tryz.prog 85 #[.string (s.extract i s.size)] w fun e w' => e = .returned (.tuple #[.int .i32 c.toNat, .int .i64 1]) ∧ w = w' := by
  refine (Tryz.utf8_DecodeRuneInString_ascii (s.extract i s.size) c w (by rw [ext_from, drop_at h]; rfl) hc).mono ?_
  rintro e w' ⟨rfl, rfl⟩
  exact ⟨rfl, rfl⟩
theorem trim_at (l : List UInt8) (w : World) (hl : l.length ≤ 4096) (ha : ∀ c, c ∈ l → c.toNat < 128) (ht : SpcTab w) :
    Calls Tryz.prog 86 #[.string ⟨l.toArray⟩] w fun e w' => e = .returned (.string (trimB l)) ∧ Hid (Ch [] w w') :=
  trimSpace_ba ⟨l.toArray⟩ (trimB l) w (by rw [size_list]; omega) (fun i hi => by
    rw [size_list] at hi
    rw [bt_list, List.getD_eq_getElem?_getD, List.getElem?_eq_getElem hi]
    have := ha _ (List.getElem_mem hi)
    show ((l[i].toNat : Nat) : Int) < 128
    omega) ht rfl

/-- Within the loop of Key.Strings. -/
structure SpAt (s : ByteArray) (b : Nat) (w wx : World) (i : Nat) (L : List ByteArray) (cur : List UInt8) (v : Value) : Prop where
  row : Row wx 9 v (strs L)
  bld : IsB b cur wx
  eq : L ++ splitC (s.data.toList.drop i) cur = splitC s.data.toList []
  ch : Ch [] w wx
  asc : ∀ c, c ∈ cur → c.toNat < 128
  own : ∀ g, v.ownBlock = some g → w.heap.size ≤ g
  gb : w.heap.size ≤ b
  ll : L.length ≤ i
  cl : cur.length ≤ i
theorem SpAt.ne {s : ByteArray} {b : Nat} {w wx : World} {i : Nat} {L : List ByteArray} {cur : List UInt8} {v : Value} (h : SpAt s b w wx i L cur v) : ∀ g, v.ownBlock = some g → g ≠ b := fun g hg => by
  obtain ⟨p, u, hb⟩ := h.bld.blk
  exact h.row.ne hb (by decide) g hg
/-- A piece's byte is written. -/
theorem SpAt.write {s : ByteArray} {b : Nat} {w wx w' : World} {i : Nat} {L : List ByteArray} {cur : List UInt8} {v : Value} (h : SpAt s b w wx i L cur v) {c : UInt8} (hc : s.data.toList[i]? = some c) (h44 : c ≠ 44) (ha : c.toNat < 128)
    (h1 : IsB b (cur ++ [c]) w') (h2 : Below b wx w') (h3 : Lib.OthersKept 5 (some b) wx w') : SpAt s b w w' (i + 1) L (cur ++ [c]) v where
  row := h.row.others h3 h.ne
  bld := h1
  eq := by rw [← h.eq, drop_at hc, splitC_else h44]
  ch := h.ch.below_step h2 h.gb
  asc := fun x hx => by
    rcases List.mem_append.1 hx with hx | hx
    · exact h.asc x hx
    · rw [List.mem_singleton] at hx; subst hx; exact ha
  own := h.own
  gb := h.gb
  ll := by have := h.ll; omega
  cl := by have := h.cl; simp; omega
/-- The piece's text is asked for. -/
theorem SpAt.told {s : ByteArray} {b : Nat} {w wx w' : World} {i : Nat} {L : List ByteArray} {cur : List UInt8} {v : Value} (h : SpAt s b w wx i L cur v)
    (h1 : IsB b cur w') (h2 : Below b wx w') (h3 : Lib.OthersKept 5 (some b) wx w') : SpAt s b w w' i L cur v :=
  { h with row := h.row.others h3 h.ne, bld := h1, ch := h.ch.below_step h2 h.gb }
theorem SpAt.nil {s : ByteArray} {b : Nat} {w wx w' : World} {i : Nat} {L : List ByteArray} {cur : List UInt8} {v : Value} (h : SpAt s b w wx i L cur v) (c : Ch [] wx w') : SpAt s b w w' i L cur v :=
  { h with row := h.row.ch c (fun _ _ => by simp), bld := h.bld.nil c, ch := h.ch.trans c (by simp) }
theorem strs_snoc (L : List ByteArray) (x : ByteArray) : strs (L ++ [x]) = strs L ++ [.string x] := by unfold strs; simp
/-- The piece is appended. -/
theorem SpAt.push {s : ByteArray} {b : Nat} {w wx W w' : World} {i : Nat} {L : List ByteArray} {cur : List UInt8} {v v' : Value} (h : SpAt s b w wx i L cur v) (hW : Ch [] wx W) {g : Nat} {x : ByteArray} (hv' : v'.ownBlock = some g)
    (h1 : Row w' 9 v' (strs L ++ [.string x])) (h2 : Ch v.ownBlock.toList W w') (h3 : v.ownBlock = some g ∨ g = W.heap.size) :
    Row w' 9 v' (strs (L ++ [x])) ∧ IsB b cur w' ∧ Ch [] w w' ∧ ∀ g, v'.ownBlock = some g → w.heap.size ≤ g := by
  have hb := h.bld.nil hW
  have hr := h.row.ch hW (fun _ _ => by simp)
  refine ⟨by rw [strs_snoc]; exact h1, hb.ch h2 (fun k hk T cs hT => ?_) (fun k hk => ?_), (h.ch.trans hW (by simp)).trans h2 (fun y hy => .inr (h.own y (by simpa using hy))), fun g' hg' => ?_⟩
  · obtain ⟨cur', cap', _, hb', _⟩ := hr.blk (g := k) (by simpa using hk)
    have e : T = 9 := by
      by_cases e : T = 9
      · exact e
      · exact absurd rfl (hT.ne hb' e)
    subst e; decide
  · obtain ⟨cur', cap', _, hb', _⟩ := hr.blk (g := k) (by simpa using hk)
    exact ⟨_, _, hb'⟩
  · rw [hv'] at hg'
    cases hg'
    rcases h3 with h3 | h3
    · exact h.own g h3
    · have e1 := h.ch.size
      have e2 := hW.size
      omega
/-- A comma: the piece is told, the builder begun anew. -/
theorem SpAt.comma {s : ByteArray} {b : Nat} {w w4 w5 w6 w7 : World} {i : Nat} {L : List ByteArray} {cur : List UInt8} {v v' : Value} (h : SpAt s b w w4 i L cur v) (hc : s.data.toList[i]? = some 44) (hW : Ch [] w4 w5) {g : Nat} (hv' : v'.ownBlock = some g)
    (h1 : Row w6 9 v' (strs L ++ [.string (trimB cur)])) (h2 : Ch v.ownBlock.toList w5 w6) (h3 : v.ownBlock = some g ∨ g = w5.heap.size) (h4 : IsB b [] w7) (h5 : Ch [b] w6 w7) : SpAt s b w w7 (i + 1) (L ++ [trimB cur]) [] v' := by
  obtain ⟨p1, p2, p3, p4⟩ := h.push hW hv' h1 h2 h3
  obtain ⟨pp, pv, pb⟩ := p2.blk
  refine { row := p1.ch h5 (fun g' hg' => by rw [List.mem_singleton]; exact p1.ne pb (by decide) g' hg'), bld := h4, eq := ?_, ch := p3.trans h5 (fun y hy => by rw [List.mem_singleton] at hy; subst hy; exact .inr h.gb), asc := (fun c hc => by cases hc), own := p4, gb := h.gb, ll := ?_, cl := Nat.zero_le _ }
  · rw [← h.eq, drop_at hc, splitC_comma]; simp
  · have := h.ll; simp; omega
theorem SpAt.done0 {s : ByteArray} {b : Nat} {w wx : World} {i : Nat} {L : List ByteArray} {v : Value} (h : SpAt s b w wx i L [] v) (hi : s.size ≤ i) : L = splitC s.data.toList [] := by
  rw [← h.eq, List.drop_eq_nil_of_le (by rw [toList_length]; exact hi)]
  simp [splitC]
theorem SpAt.doneC {s : ByteArray} {b : Nat} {w wx : World} {i : Nat} {L : List ByteArray} {cur : List UInt8} {v : Value} (h : SpAt s b w wx i L cur v) (hi : s.size ≤ i) (hc : cur ≠ []) : L ++ [trimB cur] = splitC s.data.toList [] := by
  rw [← h.eq, List.drop_eq_nil_of_le (by rw [toList_length]; exact hi)]
  simp [splitC, hc]
section
variable {P : Program} {w : World} {ops : Array Oper} {o : Oper} {a : Act} {Q : Exit → Act → World → Prop}
theorem wpList_append_rn {rest : List Oper} (hgd : o.guard = none) (s x : Operand) (t : TypeId) (ho : o.op = .call { callee := .builtin .append, args := #[s, x], argTypes := #[t, t] })
    (T : TypeId) (z : Value) (bytes : Nat) (ht : P.underlying t = some (.slice T)) (hinfo : (P.info? T).map (fun i => (i.zero, i.size, i.bytes)) = some (some z, 1, bytes)) (hz1 : z.cells.size = 1)
    (v : Value) (n : Nat) (xs : List Value) (hn : xs.length = n) (hs : a.eval s = v) (hrow : Row w T v xs) (ad : Addr) (c : Nat) (u : Value) (hx : a.eval x = .slice (some ad) 1 c) (hu : w.cell? ad = some u) (h1 : u.oneCell' = true)
    (hlen : n + 1 ≤ 1000000) (hby : bytes ≤ 1000)
    (h : ∀ g cap w', Row w' T (.slice (some ⟨g, 0, none⟩) (n + 1) cap) (xs ++ [u]) → Ch v.ownBlock.toList w w' → (v.ownBlock = some g ∨ g = w.heap.size) → wpList P ops Q rest (a.put o.dst (.slice (some ⟨g, 0, none⟩) (n + 1) cap)) w') :
    wpList P ops Q (o :: rest) a w := by
  subst hn
  exact wpList_append_row hgd s x t ho T z bytes ht hinfo hz1 v xs hs hrow ad c u hx hu h1 hlen hby (fun g cap w' h1 h2 h3 _ => h g cap w' h1 h2 h3)
end
theorem strs_len (L : List ByteArray) : (strs L).length = L.length := by unfold strs; rw [List.length_map]
end Go.Proofs.YtfnncdngfggcjaaGreatDoor
