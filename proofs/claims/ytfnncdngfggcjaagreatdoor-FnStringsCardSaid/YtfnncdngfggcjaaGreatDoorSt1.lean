/- Contracts for Key.Strings: zzCount, strings.Builder over worlds, the pieces between commas. -/
import Derived.Test.YtfnncdngfggcjaaGreatDoorIn1
import Derived.Test.YtfnncdngfggcjaaGreatDoorLf3
import Derived.Test.YtfnncdngfggcjaaGreatDoorFi2
import Derived.Test.YtfnncdngfggcjaaGreatDoorBu
import Derived.Deep.OwnRows
namespace Go.Proofs.YtfnncdngfggcjaaGreatDoor
open Go.RowKit

/-! ### The pieces -/
def trimB (l : List UInt8) : ByteArray := ⟨(Lib.trimSpace l).toArray⟩
/-- The pieces that Key.Strings makes of what is left, with the bytes of the piece at hand. -/
def splitC : List UInt8 → List UInt8 → List ByteArray
  | [], cur => if cur = [] then [] else [trimB cur]
  | c :: r, cur => if c = 44 then trimB cur :: splitC r [] else splitC r (cur ++ [c])
theorem splitC_app : ∀ (p : List UInt8) (r cur : List UInt8), 44 ∉ p → splitC (p ++ r) cur = splitC r (cur ++ p)
  | [], r, cur, _ => by simp
  | c :: p, r, cur, h => by
    rw [List.mem_cons, not_or] at h
    show (if c = 44 then trimB cur :: splitC (p ++ r) [] else splitC (p ++ r) (cur ++ [c])) = _
    rw [if_neg (Ne.symm h.1), splitC_app p r (cur ++ [c]) h.2]; simp
theorem splitC_comma (r cur : List UInt8) : splitC (44 :: r) cur = trimB cur :: splitC r [] := if_pos rfl
theorem splitC_else {c : UInt8} (h : c ≠ 44) (r cur : List UInt8) : splitC (c :: r) cur = splitC r (cur ++ [c]) := if_neg h
theorem splitC_length : ∀ (l cur : List UInt8), (splitC l cur).length ≤ l.length + 1
  | [], cur => by unfold splitC; split <;> simp
  | c :: r, cur => by
    unfold splitC
    split
    · have := splitC_length r []; simp; omega
    · have := splitC_length r (cur ++ [c]); simp; omega

/-! ### zzCount at one sign -/
def CntR (s : ByteArray) (w : World) (e : Ending) (w' : World) : Prop := ∃ n : Nat, n ≤ s.size ∧ e = .returned (.int .i64 n) ∧ w = w'
set_option maxHeartbeats 1000000 in
theorem zzCount_any (s : ByteArray) (w : World) (hs : s.size ≤ 4096) : Calls Tryz.prog 81 #[.string s, .string ⟨#[44]⟩] w (CntR s w) := by
  go_enter Tryz.func81, Tryz.ntmps81
  go_wp2
  go_loop [5, 6] (fun n i => ∃ k m : Nat, k ≤ s.size ∧ m ≤ k ∧ i = .int .i64 k ∧ n = .int .i64 m) (fun _ i => s.size - (intOf i).toNat)
  case atStart => exact ⟨0, 0, Nat.zero_le _, Nat.le_refl _, rfl, rfl⟩
  case round =>
    obtain ⟨k, m, hk, hm, rfl, rfl⟩ := hrel
    by_cases hlt : k < s.size
    · have hone := one_eq s k hlt 44
      cases hq0 : decide (bt s k = (((44 : UInt8)).toNat : Int)) with
      | true =>
        have hq : ((s.extract k (k + 1)).toList == [44]) = true := hone.trans hq0
        clear hone hq0
        go_wp2
        go_round
        case rel => exact ⟨k + 1, m + 1, by omega, by omega, by go_num, by go_num⟩
        case measure => simp [intOf]; omega
      | false =>
        have hq : ((s.extract k (k + 1)).toList == [44]) = false := hone.trans hq0
        clear hone hq0
        go_wp2
        go_round
        case rel => exact ⟨k + 1, m, by omega, by omega, by go_num, rfl⟩
        case measure => simp [intOf]; omega
    · obtain rfl : k = s.size := by omega
      go_wp2
      go_ret
      exact ⟨m, hm, rfl, rfl⟩

/-! ### make([]string, 0, n + 1) -/
theorem make_strs (W : World) (n : Nat) (hn : n ≤ 4096) : (Instr.makeSlice 26 (.int .i64 0) (.int .i64 ((n : Int) + 1))).run Tryz.prog W = .ok (.slice (some ⟨W.heap.size, 0, none⟩) 0 (n + 1)) (W.alloc (.cells (Array.replicate (n + 1) (Value.string es)) 9)) := by
  obtain ⟨i, hi, hz⟩ := Option.map_eq_some_iff.1 info9
  simp only [Prod.mk.injEq] at hz
  have h := run_make (P := Tryz.prog) W 26 9 i _ Tryz.underlying26 hi hz.1 .i64 .i64 0 ((n : Int) + 1) (Int.le_refl _) (by omega) (by rw [hz.2.2]; omega) (by omega)
  rw [h, hz.2.1, Nat.mul_one, show ((n : Int) + 1).toNat = n + 1 by omega]
  show Result.ok _ (W.alloc (.cells (madeCells #[.string es] (n + 1)) 9)) = _
  rw [madeCells_toList, List.toArray_replicate]
  rfl
theorem make_row (W : World) (n : Nat) (hn : n ≤ 4096) : Row (W.alloc (.cells (Array.replicate (n + 1) (Value.string es)) 9)) 9 (.slice (some ⟨W.heap.size, 0, none⟩) 0 (n + 1)) [] := by
  have h := Blk.new W 9 (List.replicate (n + 1) (Value.string es))
  rw [List.toArray_replicate] at h
  exact Row.ofBlk (xs := []) (spare := List.replicate (n + 1) (Value.string es)) h (by simp) (by unfold maxLen; omega)

/-! ### A builder -/
abbrev IsB (b : Nat) (l : List UInt8) (w : World) : Prop := Lib.IsBuilderF 118 5 b b (Lib.byteCells l) w
theorem IsB.same {b : Nat} {l : List UInt8} {w w' : World} (h : IsB b l w) (hh : ∀ (k : Nat), (∃ (c : Array Value) (fz : Nat × Nat) (T : TypeId), w.heap[k]? = some (Obj.cells c T fz) ∧ (T = 118 ∨ T = 5)) → w'.heap[k]? = w.heap[k]?) : IsB b l w' := by
  have key : ∀ p, Lib.BuilderAtF 118 5 b b p (Lib.byteCells l) w → Lib.BuilderAtF 118 5 b b p (Lib.byteCells l) w' := fun p h => by
    obtain ⟨h1, v, h2, ⟨h3, h4⟩, h5⟩ := h
    refine ⟨h1, v, by rw [hh b ⟨_, _, _, h2, .inl rfl⟩]; exact h2, ⟨h3, ?_⟩, h5⟩
    rcases h4 with h4 | ⟨g, cap, cur, fz, e1, e2, e3, r⟩
    · exact .inl h4
    · exact .inr ⟨g, cap, cur, fz, e1, e2, by rw [hh g ⟨_, _, _, e3, .inr rfl⟩]; exact e3, r⟩
  rcases h with h | h
  · exact .inl (key _ h)
  · exact .inr (key _ h)
theorem IsB.ch {b : Nat} {l : List UInt8} {w w' : World} (h : IsB b l w) {S : List Nat} (c : Ch S w w') (hS : ∀ k, k ∈ S → ∀ T cs, Blk w k T cs → T ≠ 118 ∧ T ≠ 5) (hS2 : ∀ k, k ∈ S → ∃ T cs, Blk w k T cs) : IsB b l w' :=
  h.same fun k ⟨cs, fz, T, h1, h2⟩ => c.block k (Array.getElem?_eq_some_iff.1 h1).1 fun hm => by
    obtain ⟨T', cs', h3⟩ := hS2 k hm
    have h4 := hS k hm T' cs' h3
    unfold Blk at h3
    rw [h3] at h1
    cases h1
    rcases h2 with h2 | h2
    · exact h4.1 h2
    · exact h4.2 h2
theorem IsB.nil {b : Nat} {l : List UInt8} {w w' : World} (h : IsB b l w) (c : Ch [] w w') : IsB b l w' := h.ch c (fun k hk => by cases hk) (fun k hk => by cases hk)
theorem IsB.lt {b : Nat} {l : List UInt8} {w : World} (h : IsB b l w) : b < w.heap.size := by
  rcases h with ⟨_, v, h2, _⟩ | ⟨_, v, h2, _⟩ <;> exact (Array.getElem?_eq_some_iff.1 h2).1
theorem IsB.blk {b : Nat} {l : List UInt8} {w : World} (h : IsB b l w) : ∃ p v, Blk w b 118 [p, v] := by
  rcases h with ⟨_, v, h2, _⟩ | ⟨_, v, h2, _⟩
  · exact ⟨_, v, h2⟩
  · exact ⟨_, v, h2⟩
theorem IsB.fresh {b : Nat} {w : World} (h : Blk w b 118 [.pointer none, .slice none 0 0]) : IsB b [] w :=
  .inl ⟨Nat.le_refl _, _, h, ⟨rfl, .inl ⟨rfl, rfl⟩⟩, fun h => by cases h⟩
theorem Ch.below_step {w0 a b : World} {B : Nat} (h : Ch [] w0 a) (k : Below B a b) (hB : w0.heap.size ≤ B) : Ch [] w0 b :=
  ⟨k.os.trans h.os, k.tape.trans h.tape, k.output.trans h.output, Nat.le_trans h.size k.size, fun i hi hn => (k.block i (by omega)).trans (h.block i hi hn)⟩
/-- A row that is none of bytes stands behind what the builder does. -/
theorem Row.others {w w' : World} {b : Nat} {v : Value} {xs : List Value} (h : Row w 9 v xs) (k : Lib.OthersKept 5 (some b) w w') (hb : ∀ g, v.ownBlock = some g → g ≠ b) : Row w' 9 v xs :=
  h.same fun g hg => by
    obtain ⟨cur, cap, _, hb', _⟩ := h.blk hg
    rw [k g _ hb' (fun e => hb g hg (Option.some.inj e)) (fun c fz e => by cases e)]
    exact hb'.symm

theorem runeCells_ascii (c : UInt8) (h : c.toNat < 128) : Lib.runeCells (c.toNat : Int) = Lib.byteCells [c] := by
  unfold Lib.runeCells
  rw [Lib.encodeRuneZ_one (by omega) (by omega)]
  rfl
theorem byteCells_snoc (l : List UInt8) (c : UInt8) (h : c.toNat < 128) : Lib.byteCells l ++ Lib.runeCells (c.toNat : Int) = Lib.byteCells (l ++ [c]) := by
  rw [runeCells_ascii c h]; unfold Lib.byteCells; simp

theorem writeRune_b (b : Nat) (l : List UInt8) (c : UInt8) (w : World) (h : IsB b l w) (hc : c.toNat < 128) (hl : l.length ≤ 4096) :
    Calls Tryz.prog 84 #[.pointer (some ⟨b, 0, none⟩), .int .i32 c.toNat] w fun e w' => ∃ x, e = .returned x ∧ Hid (IsB b (l ++ [c]) w') ∧ Hid (Below b w w') ∧ Hid (Lib.OthersKept 5 (some b) w w') := by
  refine (Tryz.Builder_WriteRune_k b b (Lib.byteCells l) c.toNat (by omega) (by omega) w h (by unfold Lib.byteCells; rw [List.length_map]; omega) (Nat.le_of_lt h.lt)).mono ?_
  rintro e w' ⟨rfl, h1, h2, h3⟩
  rw [byteCells_snoc l c hc] at h1
  exact ⟨_, rfl, .inr h1, h2, h3⟩
theorem string_b (b : Nat) (l : List UInt8) (w : World) (h : IsB b l w) :
    Calls Tryz.prog 87 #[.pointer (some ⟨b, 0, none⟩)] w fun e w' => e = .returned (.string ⟨l.toArray⟩) ∧ Hid (IsB b l w') ∧ Hid (Below b w w') ∧ Hid (Lib.OthersKept 5 (some b) w w') := by
  refine (Tryz.Builder_String_any_k b b l w h (Nat.le_of_lt h.lt)).mono ?_
  rintro e w' ⟨rfl, h1, h2, h3⟩
  exact ⟨rfl, h1, h2, h3⟩
theorem len_b (b : Nat) (l : List UInt8) (w : World) (h : IsB b l w) : Calls Tryz.prog 89 #[.pointer (some ⟨b, 0, none⟩)] w fun e w' => e = .returned (.int .i64 l.length) ∧ w = w' := by
  refine (Tryz.Builder_Len_f b b (Lib.byteCells l) w h).mono ?_
  rintro e w' ⟨rfl, rfl⟩
  exact ⟨by unfold Lib.byteCells; rw [List.length_map], rfl⟩
theorem grow_b (b n : Nat) (w : World) (h : Blk w b 118 [.pointer none, .slice none 0 0]) (hn : n ≤ 4096) :
    Calls Tryz.prog 82 #[.pointer (some ⟨b, 0, none⟩), .int .i64 n] w fun e w' => ∃ x, e = .returned x ∧ Hid (IsB b [] w') ∧ Hid (Below b w w') := by
  refine (Tryz.Builder_Grow_fresh b b n w (Nat.le_refl _) h (Nat.le_of_lt h.lt) (by omega)).mono ?_
  rintro e w' ⟨rfl, h1, h2⟩
  exact ⟨_, rfl, .inr (Lib.BuilderAtF.of h1), h2⟩
theorem reset_b (b : Nat) (l : List UInt8) (w : World) (h : IsB b l w) : Calls Tryz.prog 88 #[.pointer (some ⟨b, 0, none⟩)] w fun e w' => ∃ x, e = .returned x ∧ Hid (IsB b [] w') ∧ Hid (Ch [b] w w') := by
  obtain ⟨p, v, hb⟩ := h.blk
  have hf := hb.frees
  have hc := hb.cells
  have HB := Lib.hid hb
  clear hb h
  go_enter Tryz.func88, Tryz.ntmps88
  go_wp2
  go_end0
  exact ⟨_, rfl, IsB.fresh ((HB.out.set 0 (.pointer none)).set 1 (.slice none 0 0)), ((Ch.refl [b] w).set (.inl (by simp)) _).set (.inl (by simp)) _⟩
end Go.Proofs.YtfnncdngfggcjaaGreatDoor
