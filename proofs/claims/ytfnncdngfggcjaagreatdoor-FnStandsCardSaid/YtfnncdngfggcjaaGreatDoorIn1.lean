/- Contracts for FnIn: zzFits5, slices.Clone on texts, Key.In, impl.In. -/
import Derived.Test.YtfnncdngfggcjaaGreatDoorTrl
import Derived.Maps.AppendAt
namespace Go.Proofs.YtfnncdngfggcjaaGreatDoor
open Go.RowKit

/-- The value v is a slice that holds the texts l, below block B. -/
def StrsB (B : Nat) (w : World) (v : Value) (l : List ByteArray) : Prop :=
  (∃ p c, v = .slice p 0 c ∧ l = []) ∨
  ∃ b off cap, v = .slice (some ⟨b, off, none⟩) l.length cap ∧ 0 < l.length ∧ l.length ≤ cap ∧ b < B ∧ b < w.heap.size ∧ ∀ k (h : k < l.length), w.cell? ⟨b, off + k, none⟩ = some (.string l[k])

theorem StrsB.ch {B : Nat} {w w' : World} {v : Value} {l : List ByteArray} (h : StrsB B w v l) {S : List Nat} (c : Ch S w w') (hS : ∀ b, b ∈ S → B ≤ b) : StrsB B w' v l := by
  rcases h with h | ⟨b, off, cap, h1, h2, h3, h4, h5, h6⟩
  · exact .inl h
  · exact .inr ⟨b, off, cap, h1, h2, h3, h4, Nat.lt_of_lt_of_le h5 c.size, fun k hk => (c.cell (p := ⟨b, off + k, none⟩) h5 (fun hm => by have := hS b hm; omega)).trans (h6 k hk)⟩
theorem StrsB.kept {B : Nat} {w w' : World} {v : Value} {l : List ByteArray} (h : StrsB B w v l) (c : Kept B w w') : StrsB B w' v l := by
  obtain ⟨S, h1, h2⟩ := c
  exact h.ch h1 h2
theorem StrsB.ofRow {w : World} {v : Value} {l : List ByteArray} (h : Row w 9 v (strs l)) : StrsB w.heap.size w v l := by
  rcases h.form with ⟨rfl, h0⟩ | ⟨g, cap, rfl, hcap, hg, hc⟩
  · exact .inl ⟨none, 0, rfl, by simpa [strs] using h0⟩
  · have hsl : (strs l).length = l.length := by simp [strs]
    rw [hsl] at hcap ⊢
    by_cases h0 : l = []
    · subst h0; exact .inl ⟨_, _, rfl, rfl⟩
    · refine .inr ⟨g, 0, cap, rfl, List.length_pos_iff.2 h0, hcap, hg, hg, fun k hk => ?_⟩
      rw [Nat.zero_add]
      exact hc k _ (strs_get hk)

def fitsB (l : List ByteArray) : Bool := decide (l.length ≤ 2147483647) && l.all fun s => decide (s.size ≤ 2147483647)
theorem fitsB_no {l : List ByteArray} {k : Nat} (hk : k < l.length) (h : 2147483647 < l[k].size) : fitsB l = false := by
  unfold fitsB
  have : (l.all fun s => decide (s.size ≤ 2147483647)) = false := List.all_eq_false.2 ⟨l[k], List.getElem_mem hk, by simp; omega⟩
  rw [this, Bool.and_false]
theorem fitsB_long {l : List ByteArray} (h : 2147483647 < l.length) : fitsB l = false := by
  unfold fitsB
  rw [decide_eq_false (by omega), Bool.false_and]
theorem fitsB_yes {l : List ByteArray} (h : ¬ 2147483647 < l.length) (h2 : ∀ j (h : j < l.length), l[j].size ≤ 2147483647) : fitsB l = true := by
  unfold fitsB
  rw [decide_eq_true (by omega), Bool.true_and, List.all_eq_true]
  intro s hs
  obtain ⟨j, hj, rfl⟩ := List.getElem_of_mem hs
  exact decide_eq_true (h2 j hj)
theorem fitsB_len {l : List ByteArray} (h : fitsB l = true) : l.length ≤ 2147483647 := by
  unfold fitsB at h; simp at h; exact h.1
theorem fitsB_at {l : List ByteArray} (h : fitsB l = true) {s : ByteArray} (hs : s ∈ l) : s.size ≤ 2147483647 := by
  unfold fitsB at h; simp at h; exact h.2 s hs

set_option maxHeartbeats 1000000 in
theorem zzFits5_any (B : Nat) (v : Value) (l : List ByteArray) (w : World) (h : StrsB B w v l) (hl : l.length ≤ maxLen) :
    Calls Tryz.prog 23 #[v] w fun e w' => e = .returned (.bool (fitsB l)) ∧ w = w' := by
  unfold maxLen at hl
  rcases h with ⟨p, c, rfl, rfl⟩ | ⟨b, off, cap, rfl, h0, hcap, hbB, _, hc⟩
  · go_enter Tryz.func23, Tryz.ntmps23
    go_wp2
    refine wp_loop_rounds 1 ?_
    rw [rounds_succ]
    go_wp2
    go_ret
    exact ⟨rfl, rfl⟩
  · by_cases hL : (2147483647 : Int) < (l.length : Int)
    · clear hc
      go_enter Tryz.func23, Tryz.ntmps23
      go_wp2
      go_ret
      exact ⟨ret_bool (fitsB_long (by omega)).symm, rfl⟩
    · have HC := Lib.hid hc
      clear hc
      go_enter Tryz.func23, Tryz.ntmps23
      go_wp2
      go_loop [10] (fun i => ∃ k : Nat, k ≤ l.length ∧ i = .int .i64 k ∧ Hid (∀ j (h : j < l.length), j < k → l[j].size ≤ 2147483647)) (fun i => l.length - (intOf i).toNat)
      case atStart => exact ⟨0, Nat.zero_le _, rfl, fun j _ hj => absurd hj (Nat.not_lt_zero _)⟩
      case round =>
        obtain ⟨k, hk, rfl, hok⟩ := hrel
        by_cases hlt : k < l.length
        · have hcell := HC.out k hlt
          by_cases hs : (2147483647 : Int) < (l[k].size : Int)
          · go_wp2
            go_ret
            exact ⟨ret_bool (fitsB_no hlt (by omega)).symm, rfl⟩
          · have hok' : Hid (∀ j (h : j < l.length), j < k + 1 → l[j].size ≤ 2147483647) := fun j h hj => by
              rcases Nat.lt_or_ge j k with h' | h'
              · exact hok.out j h h'
              · obtain rfl : j = k := by omega
                omega
            clear hok
            go_wp2
            go_round
            case rel => exact ⟨k + 1, by omega, by go_num, hok'⟩
            case measure => simp [intOf]; omega
        · obtain rfl : k = l.length := by omega
          have hfin : Hid (fitsB l = true) := fitsB_yes (by omega) (fun j h => hok.out j h h)
          clear hok
          go_wp2
          go_ret
          exact ⟨by rw [hfin.out]; rfl, rfl⟩

set_option maxRecDepth 100000 in
set_option maxHeartbeats 1000000 in
theorem clone_any (B : Nat) (v : Value) (l : List ByteArray) (w : World) (h : StrsB B w v l) (hl : l.length ≤ 1000000) :
    Calls Tryz.prog 42 #[v] w fun e w' => ∃ v', e = .returned v' ∧ Hid (StrsB w'.heap.size w' v' l) ∧ Hid (Ch [] w w') := by
  obtain ⟨i, hi, hz⟩ := Option.map_eq_some_iff.1 info9
  simp only [Prod.mk.injEq] at hz
  have hmk : ∀ W, (Instr.buildSlice 26 0 #[]).run Tryz.prog W = .ok (.slice (some ⟨W.heap.size, 0, none⟩) 0 0) (W.alloc (.cells #[] 9)) := fun _ => by kernel_rfl
  have hrow : Row (w.alloc (.cells #[] 9)) 9 (.slice (some ⟨w.heap.size, 0, none⟩) 0 0) [] := Row.ofBlk (xs := []) (spare := []) (Blk.new w 9 []) rfl (by unfold maxLen; omega)
  have HR := Lib.hid hrow
  clear hrow
  rcases h with ⟨p, c, rfl, rfl⟩ | ⟨b, off, cap, rfl, h0, hcap, hbB, hbw, hc⟩
  · cases p with
    | none =>
      have hq : ∀ W, (binOp .eql 26 (.slice none 0 c) (.slice none 0 0)).run Tryz.prog W = .ok (.bool true) W := fun _ => by kernel_rfl
      go_enter Tryz.func42, Tryz.ntmps42
      go_wp2
      go_ret
      exact ⟨_, rfl, .inl ⟨none, 0, rfl, rfl⟩, Ch.refl _ _⟩
    | some a =>
      have hne : ∀ W, (binOp .eql 26 (.slice (some a) 0 c) (.slice none 0 0)).run Tryz.prog W = .ok (.bool false) W := fun _ => by kernel_rfl
      go_enter Tryz.func42, Tryz.ntmps42
      go_wp2_with (at_builtin; refine wpList_append_own_at _ rfl (.tmp 5) (.tmp 6) 26 rfl 0 9 i _ 1 16 Tryz.underlying26 hi hz.1 hz.2.1 hz.2.2 rfl (by decide) _ 0 [] rfl HR.out a 0 c [] rfl rfl (fun j u hu => by simp at hu) (fun u hu => by simp at hu) (by decide) (by decide) (Nat.zero_le _) ?_)
      intro v' w' h1 h2 h3 h4
      go_wp2
      go_ret
      refine ⟨v', rfl, StrsB.ofRow (l := []) h1, ((Ch.refl [] w).alloc _).grown h2 (fun k hk => by cases hk; exact .inr (Nat.le_refl _))⟩
  · have hsl : (strs l).length = l.length := by simp [strs]
    have hne : ∀ W, (binOp .eql 26 (.slice (some ⟨b, off, none⟩) l.length cap) (.slice none 0 0)).run Tryz.prog W = .ok (.bool false) W := fun _ => by kernel_rfl
    have HC : Hid (∀ j u, (strs l)[j]? = some u → (w.alloc (.cells #[] 9)).cell? ((⟨b, off, none⟩ : Addr).add j) = some u) := fun j u hu => by
      have hj : j < l.length := by rw [← hsl]; exact (List.getElem?_eq_some_iff.1 hu).1
      rw [strs_get hj] at hu
      rw [Go.WideShapes.add_plain, World.cell?_alloc_lt _ _ _ (by exact hbw), hc j hj]
      exact hu
    clear hc
    go_enter Tryz.func42, Tryz.ntmps42
    go_wp2_with (at_builtin; refine wpList_append_own_at _ rfl (.tmp 5) (.tmp 6) 26 rfl 0 9 i _ 1 16 Tryz.underlying26 hi hz.1 hz.2.1 hz.2.2 rfl (by decide) _ 0 [] rfl HR.out ⟨b, off, none⟩ l.length cap (strs l) rfl (by rw [hsl, Nat.mul_one]) HC.out (fun u hu => by obtain ⟨s, _, rfl⟩ := List.mem_map.1 hu; rfl) (by unfold maxLen; omega) (by omega) (Nat.zero_le _) ?_)
    intro v' w' h1 h2 h3 h4
    go_wp2
    go_ret
    refine ⟨v', rfl, StrsB.ofRow (l := l) ?_, ((Ch.refl [] w).alloc _).grown h2 (fun k hk => by cases hk; exact .inr (Nat.le_refl _))⟩
    unfold Row
    rw [hsl]
    simpa using h1

/-- What In tells. -/
def pickIn : List ByteArray → ByteArray → ByteArray → ByteArray
  | [], _, other => other
  | t :: l, s, other => if s = t then s else pickIn l s other
theorem pickIn_mem {s other : ByteArray} : ∀ {l : List ByteArray}, s ∈ l → pickIn l s other = s
  | [], h => by cases h
  | t :: l, h => by
    unfold pickIn
    by_cases e : s = t
    · rw [if_pos e]
    · rw [if_neg e]; exact pickIn_mem ((List.mem_cons.1 h).resolve_left e)
theorem pickIn_not {s other : ByteArray} : ∀ {l : List ByteArray}, s ∉ l → pickIn l s other = other
  | [], _ => rfl
  | t :: l, h => by
    unfold pickIn
    rw [List.mem_cons, not_or] at h
    rw [if_neg h.1]; exact pickIn_not h.2
theorem pickIn_at {l : List ByteArray} {s other : ByteArray} {k : Nat} (hk : k < l.length) (h : s = l[k]) : pickIn l s other = s := pickIn_mem (by rw [h]; exact List.getElem_mem hk)
theorem pickIn_no {l : List ByteArray} {s other : ByteArray} (h : ∀ j (h : j < l.length), s ≠ l[j]) : pickIn l s other = other := pickIn_not fun hm => by
  obtain ⟨j, hj, e⟩ := List.getElem_of_mem hm
  exact h j hj e.symm
theorem beq_list {a b : ByteArray} (h : a ≠ b) : (a.toList == b.toList) = false := beq_eq_false_iff_ne.2 (fun e => h (by rw [ba_of_list e, ← ba_of_list (rfl : b.toList = b.toList)]))
theorem ret_str {a b : ByteArray} (h : a = b) : Ending.returned (.string a) = .returned (.string b) := by rw [h]

set_option maxHeartbeats 1000000 in
theorem keyIn_any (B kb : Nat) (val other : ByteArray) (v : Value) (l : List ByteArray) (w : World) (hS : Hid (Calls Tryz.prog 56 #[ptr kb] w fun e w' => e = .returned (.string val) ∧ w = w')) (h : StrsB B w v l) (hl : l.length ≤ 1000000) :
    Calls Tryz.prog 59 #[ptr kb, .string other, v] w fun e w' => e = .returned (.string (pickIn l val other)) ∧ w = w' := by
  rcases h with ⟨p, c, rfl, rfl⟩ | ⟨b, off, cap, rfl, h0, hcap, hbB, _, hc⟩
  · go_enter Tryz.func59, Tryz.ntmps59
    go_wp2_with (go_at_call 56; refine hS.out.mono ?_; rintro e w' ⟨rfl, rfl⟩)
    refine wp_loop_rounds 1 ?_
    rw [rounds_succ]
    go_wp2
    go_ret
    exact ⟨ret_str (pickIn_no (fun j h => absurd h (Nat.not_lt_zero _))).symm, rfl⟩
  · have HC := Lib.hid hc
    clear hc
    go_enter Tryz.func59, Tryz.ntmps59
    go_wp2_with (go_at_call 56; refine hS.out.mono ?_; rintro e w' ⟨rfl, rfl⟩)
    go_loop [14] (fun i => ∃ k : Nat, k ≤ l.length ∧ i = .int .i64 k ∧ Hid (∀ j (h : j < l.length), j < k → val ≠ l[j])) (fun i => l.length - (intOf i).toNat)
    case atStart => exact ⟨0, Nat.zero_le _, rfl, fun j _ hj => absurd hj (Nat.not_lt_zero _)⟩
    case round =>
      obtain ⟨k, hk, rfl, hno⟩ := hrel
      by_cases hlt : k < l.length
      · have hcell := HC.out k hlt
        by_cases heq : val = l[k]
        · have hbq : (val.toList == l[k].toList) = true := by rw [heq]; simp
          have hfin : Hid (pickIn l val other = val) := pickIn_at hlt heq
          clear heq
          go_wp2
          go_ret
          exact ⟨ret_str hfin.out.symm, rfl⟩
        · have hbq : (val.toList == l[k].toList) = false := beq_list heq
          have hno' : Hid (∀ j (h : j < l.length), j < k + 1 → val ≠ l[j]) := fun j h hj => by
            rcases Nat.lt_or_ge j k with h' | h'
            · exact hno.out j h h'
            · obtain rfl : j = k := by omega
              exact heq
          clear heq hno
          go_wp2
          go_round
          case rel => exact ⟨k + 1, by omega, by go_num, hno'⟩
          case measure => simp [intOf]; omega
      · obtain rfl : k = l.length := by omega
        have hfin : Hid (pickIn l val other = other) := pickIn_no (fun j h => hno.out j h h)
        clear hno
        go_wp2
        go_ret
        exact ⟨ret_str hfin.out.symm, rfl⟩

theorem aloneR_ch {w0 w w' : World} {B kb : Nat} {v : ByteArray} (h : AloneR w0 B v kb w) (c : Ch [] w w') : AloneR w0 B v kb w' := by
  obtain ⟨sb, fb, sname, km, klv, kh, dsv, slv, siv, mb, S, hk, hs, hf, h1, h2⟩ := h
  exact ⟨sb, fb, sname, km, klv, kh, dsv, slv, siv, mb, S, hk.ch c (by simp), hs.ch c (by simp), hf.ch c (by simp), h1.trans c (by simp), h2⟩

set_option maxHeartbeats 1000000 in
theorem in32_of (B : Nat) (ea fa : Addr) (s other : ByteArray) (v : Value) (l : List ByteArray) (w : World) (g : Glob w B ea fa) (hv : s.size ≤ 4096) (hno : Hid (NoPct s)) (h : StrsB B w v l) (hl : l.length ≤ 1000000) :
    Calls Tryz.prog 32 #[.string s, .string other, v] w fun e w' => e = .returned (.string (pickIn l s other)) ∧ Hid (Kept B w w') := by
  have HA := Lib.hid (alone_plain B ea fa s w g hv hno)
  have HV := Lib.hid h
  clear g h
  go_enter Tryz.func32, Tryz.ntmps32
  go_wp2_with (first
    | (go_at_call 57; refine HA.out.mono ?_; rintro e w1 ⟨kb, rfl, HR⟩; have HC := Lib.hid (aloneCh HR.out); have HV1 := Lib.hid (HV.out.kept HC.out); unfold ptr)
    | (go_at_call 42; refine (clone_any B v l _ HV1.out hl).mono ?_; rintro e w2 ⟨v', rfl, HV2, HC2⟩; have HS := Lib.hid (aloneString (aloneR_ch HR.out HC2.out) hv hno))
    | (go_at_call 59; refine (keyIn_any _ kb s other v' l _ HS HV2.out hl).mono ?_; rintro e w3 ⟨rfl, rfl⟩))
  go_ret
  exact ⟨rfl, Kept.trans HC.out ⟨[], HC2.out, by simp⟩⟩
end Go.Proofs.YtfnncdngfggcjaaGreatDoor
