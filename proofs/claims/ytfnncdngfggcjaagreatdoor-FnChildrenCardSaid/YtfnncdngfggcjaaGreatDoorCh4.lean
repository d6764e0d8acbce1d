/- The walk of laws.FnChildren. -/
import Derived.Test.YtfnncdngfggcjaaGreatDoorCh3
import Derived.Test.YtfnncdngfggcjaaGreatDoorPt3
namespace Go.Proofs.YtfnncdngfggcjaaGreatDoor
open Go.RowKit

theorem ch24 (B : Nat) (ea fa : Addr) (name : ByteArray) (l : List ByteArray) (h : ChIn name l) (w : World) (g : Glob w B ea fa) (W : World) (txt : ByteArray) (hW : Ch [] w W) (ht : txt.data.toList = textOf (chLines name l)) :
    Calls Tryz.prog 24 #[.string txt, .string name] W fun e w' => ∃ v', e = .returned (.tuple #[v', .bool true]) ∧ Hid (StrsB w'.heap.size w' v' (kidNames (runP false ⟨[(dflt, [])], 0, 1⟩ (chLines name l)).v (name ++ ⟨#[46]⟩))) ∧ Hid (Kept W.heap.size W w') :=
  children_of W.heap.size ea fa (chLines name l) txt name W (h.ok ht) (g.ch hW (by simp)).up (nameB_size h.hn).1 (by have := (nameB_size h.hn).2; omega) ChIn.in h.vlen h.vnm

theorem ch_next {name : ByteArray} {l : List ByteArray} {k : Nat} {n t t' : ByteArray} (hk : l[k]? = some n) (ht : t.data.toList = textOf (chLines name (l.take k)))
    (ht' : t'.data.toList = t.data.toList ++ (91 :: ((dot name n).data.toList ++ [93])) ++ 10 :: (91 :: ((dot (xn n) yb).data.toList ++ [93])) ++ [10]) : t'.data.toList = textOf (chLines name (l.take (k + 1))) := by
  obtain ⟨hlt, hn⟩ := List.getElem?_eq_some_iff.1 hk
  subst hn
  unfold chLines at ht ⊢
  rw [chNames_take hlt, ← List.cons_append, List.map_append, textOf_app, ← ht, ht']
  simp [textOf, Ln.body]
theorem ChIn.take {name : ByteArray} {l : List ByteArray} {k : Nat} (hn : isNameB name = true) (h : ∀ j (hj : j < l.length), j < k → isNameB l[j] = true) (hl : l.length ≤ 10) : ChIn name (l.take k) :=
  ⟨hn, fun n hm => by
    obtain ⟨j, hj, e⟩ := List.mem_iff_getElem.1 hm
    rw [List.getElem_take] at e
    rw [List.length_take] at hj
    rw [← e]; exact h j (by omega) (by omega), by rw [List.length_take]; omega⟩
theorem nodup_step {l : List ByteArray} {k : Nat} (hk : k < l.length) (h : (l.take k).Nodup) (hn : ∀ j (hj : j < l.length), j < k → l[j] ≠ l[k]) : (l.take (k + 1)).Nodup := by
  rw [List.take_succ_eq_append_getElem hk, List.nodup_append]
  refine ⟨h, by simp, fun a ha b hb => ?_⟩
  rw [List.mem_singleton] at hb
  subst hb
  obtain ⟨j, hj, e⟩ := List.mem_iff_getElem.1 ha
  rw [List.getElem_take] at e
  rw [List.length_take] at hj
  rw [← e]; exact hn j (by omega) (by omega)

theorem dots_take {name n : ByteArray} {l : List ByteArray} {k : Nat} (h : l[k]? = some n) : strs ((l.take (k + 1)).map (dot name)) = strs ((l.take k).map (dot name)) ++ [.string (dot name n)] := by
  obtain ⟨hk, hn⟩ := List.getElem?_eq_some_iff.1 h
  unfold strs
  rw [List.take_succ_eq_append_getElem hk, List.map_append, List.map_append, hn]; rfl

set_option maxRecDepth 100000 in
set_option maxHeartbeats 8000000 in
theorem fnChildren_walk (B : Nat) (ea fa : Addr) (name : ByteArray) (v : Value) (l : List ByteArray) (w : World) (g : Glob w B ea fa) (hB : B = w.heap.size) (h : StrsB B w v l) (hl : l.length ≤ maxLen) :
    Calls Tryz.prog 5 #[.string name, v] w fun e w' => e = .returned (.bool true) ∧ Hid (Kept B w w') := by
  by_cases z0 : (2147483647 : Int) < (name.size : Int)
  · clear g h
    go_enter Tryz.func5, Tryz.ntmps5
    go_wp2
    go_ret
    exact ⟨rfl, Kept.refl B w⟩
  have HF0 := zzFits5_any B v l w h hl
  cases hf : fitsB l with
  | false =>
    rw [hf] at HF0
    have HF := Lib.hid HF0
    clear HF0 g h hf
    go_enter Tryz.func5, Tryz.ntmps5
    go_wp2_with (go_at_call 23; refine HF.out.mono ?_; rintro e w' ⟨rfl, rfl⟩)
    go_ret
    exact ⟨rfl, Kept.refl B w⟩
  | true =>
  rw [hf] at HF0
  have HF := Lib.hid HF0
  clear HF0
  have HFA : Hid (∀ k (h : k < l.length), l[k].size ≤ 2147483647) := fun k hk => fitsB_at hf (List.getElem_mem hk)
  have hlen := fitsB_len hf
  obtain ⟨a, cap, rfl, hsl⟩ := h.slot
  have HV := Lib.hid h
  have HSL := Lib.hid hsl
  clear h hf hsl
  cases h1 : isNameB name with
  | false =>
    have HN := isName_hid name false h1 (by omega)
    clear g h1
    go_enter Tryz.func5, Tryz.ntmps5
    go_wp2_with (first
      | (go_at_call 23; refine HF.out.mono ?_; rintro e w' ⟨rfl, rfl⟩)
      | (go_at_call 20; (with_reducible refine (HN.out _).mono ?_); rintro e w1 ⟨rfl, HC1⟩))
    go_ret
    exact ⟨rfl, ⟨[], HC1.out, by simp⟩⟩
  | true =>
  have HN := isName_hid name true h1 (by omega)
  have HNN := Lib.hid h1
  have hnz := nameB_size h1
  clear h1
  by_cases h10 : (10 : Int) < (l.length : Int)
  · clear g
    go_enter Tryz.func5, Tryz.ntmps5
    go_wp2_with (first
      | (go_at_call 23; refine HF.out.mono ?_; rintro e w' ⟨rfl, rfl⟩)
      | (go_at_call 20; (with_reducible refine (HN.out _).mono ?_); rintro e w1 ⟨rfl, HC1⟩))
    go_ret
    exact ⟨rfl, ⟨[], HC1.out, by simp⟩⟩
  have HG := Lib.hid g
  have HBE := Lib.hid hB
  have hl10 : l.length ≤ 10 := by omega
  clear g hB
  go_enter Tryz.func5, Tryz.ntmps5
  go_wp2_with (first
    | (go_at_call 23; refine HF.out.mono ?_; rintro e w' ⟨rfl, rfl⟩)
    | (go_at_call 20; (with_reducible refine (HN.out _).mono ?_); rintro e w1 ⟨rfl, HC1⟩))
  clear HF HN
  go_loopg [5, 6, 37] (l.length + 1) (fun gf s5 s6 s37 wx => ∃ (k : Nat) (t : ByteArray), k ≤ l.length ∧ gf = l.length + 1 - k ∧ s37 = .int .i64 k ∧ s5 = .string t ∧ Hid (t.data.toList = textOf (chLines name (l.take k))) ∧
    Hid (Row wx 9 s6 (strs ((l.take k).map (dot name)))) ∧ Hid (Ch [] w wx) ∧ Hid (∀ g, s6.ownBlock = some g → w.heap.size ≤ g) ∧ Hid (∀ j (hj : j < l.length), j < k → isNameB l[j] = true) ∧ Hid ((l.take k).Nodup))
  case atStart =>
    exact ⟨0, _, Nat.zero_le _, rfl, rfl, rfl, by rw [app_list, app_list]; simp [chLines, chNames, textOf, Ln.body]; exact trivial, Row.ofBlk (xs := []) (spare := []) (Blk.new w1 9 []) rfl (by decide), HC1.out.alloc _, fun g hg => by cases hg; exact HC1.out.size, fun j hj h => absurd h (Nat.not_lt_zero _), by simp; exact trivial⟩
  case round =>
    obtain ⟨k, t, hk, hgk, rfl, rfl, HT, HRW, HC, HO, HI, HND⟩ := hrel
    have HCI : Hid (ChIn name (l.take k)) := ChIn.take HNN.out HI.out hl10
    have htz : t.size ≤ 1400 := by
      have h1 := HCI.out.text
      have h2 := HT.out
      rw [← h2, toList_length] at h1
      exact h1
    by_cases hlt : k < l.length
    · obtain ⟨b, off, rfl, hcp, hbw, _, hcl⟩ := HSL.out k hlt
      have hcell := (HC.out.cell (p := ⟨b, off + k, none⟩) hbw (by simp)).trans (hcl k hlt)
      have HCL := Lib.hid hcl
      obtain ⟨n, hn⟩ : ∃ n, l[k] = n := ⟨_, rfl⟩
      have hnk : l[k]? = some n := by rw [List.getElem?_eq_getElem hlt, hn]
      have hnz1 := HFA.out k hlt
      have HNK := Lib.hid hnk
      have HNE := Lib.hid hn
      rw [hn] at hcell hnz1
      clear hcl hn hnk
      cases h2 : isNameB n with
      | false =>
        have HN2 := isName_hid n false h2 (by omega)
        clear h2
        go_wp2_with (go_at_call 20; refine (HN2.out _).mono ?_; rintro e w2 ⟨rfl, HC2⟩)
        go_ret
        exact ⟨rfl, ⟨[], HC.out.trans HC2.out (by simp), by simp⟩⟩
      | true =>
        have HN2 := isName_hid n true h2 (by omega)
        have HN3 := Lib.hid h2
        have hnz2 := nameB_size h2
        clear h2
        go_wp2_with (go_at_call 20; refine (HN2.out _).mono ?_
                     rintro e w2 ⟨rfl, hc2⟩
                     have HC2 : Hid (Ch [] w w2) := HC.out.trans hc2.out (by simp)
                     have HR2 := Lib.hid (HRW.out.ch hc2.out (by simp))
                     clear hc2)
        go_loop [49] (fun i => ∃ j : Nat, j ≤ k ∧ i = .int .i64 j ∧ Hid (∀ i (hi : i < l.length), i < j → n ≠ l[i])) (fun i => k - (intOf i).toNat)
        case atStart => exact ⟨0, Nat.zero_le _, rfl, fun i hi h => absurd h (Nat.not_lt_zero _)⟩
        case round =>
          obtain ⟨j, hj, rfl, HDI⟩ := hrel
          by_cases hjk : j < k
          · have hjl : j < l.length := by omega
            have hcj := (HC2.out.cell (p := ⟨b, off + j, none⟩) hbw (by simp)).trans (HCL.out j hjl)
            obtain ⟨m, hm⟩ : ∃ m, l[j] = m := ⟨_, rfl⟩
            rw [hm] at hcj
            by_cases heq : n = m
            · have hbq : (n.toList == m.toList) = true := by rw [heq]; simp
              clear heq hm
              go_wp2
              go_ret
              exact ⟨rfl, ⟨[], HC2.out, by simp⟩⟩
            · have hbq : (n.toList == m.toList) = false := beq_list heq
              have HDJ : Hid (∀ i (hi : i < l.length), i < j + 1 → n ≠ l[i]) := fun i hi h => by
                by_cases e : i = j
                · subst e; rw [hm]; exact heq
                · exact HDI.out i hi (by omega)
              clear heq hm
              go_wp2
              go_round
              case rel => exact ⟨j + 1, by omega, by go_num, HDJ⟩
              case measure => simp [intOf]; omega
          · obtain rfl : k = j := by omega
            have HLE : Hid ((strs ((l.take k).map (dot name))).length + 1 ≤ 1000000) := by
              have : (strs ((l.take k).map (dot name))).length ≤ l.length := by unfold strs; rw [List.length_map, List.length_map, List.length_take]; omega
              show _ + 1 ≤ 1000000
              omega
            go_wp2_with (at_builtin; refine wpList_append_row rfl (.tmp 68) (.tmp 73) 26 rfl 9 _ 16 Tryz.underlying26 info9 rfl _ _ rfl (HR2.out.alloc _) ⟨w2.heap.size, 0, none⟩ 1 (.string (name ++ ⟨#[46]⟩ ++ n)) rfl (by simp) rfl HLE.out (by omega) ?_)
            intro g1 cap1 w3 hr1 hch1 hg1 hg1l
            have HC3 : Hid (Ch [] w w3) := (HC2.out.alloc _).trans hch1 (fun y hy => .inr (HO.out y (by simpa using hy)))
            have HO3 : Hid (w.heap.size ≤ g1) := by
              rcases hg1 with h | h
              · exact HO.out _ h
              · show w.heap.size ≤ g1; rw [h]; exact Nat.le_trans HC2.out.size (by simp)
            have HR3 := Lib.hid hr1
            have HDT := Lib.hid (dots_take (name := name) HNK.out)
            have HSL3 : Hid ((strs ((l.take k).map (dot name))).length + 1 = (strs ((l.take (k + 1)).map (dot name))).length) := by
              rw [HDT.out, List.length_append]; rfl
            clear hr1 hch1 hg1 hg1l
            go_wp2
            go_roundg (l.length + 1 - (k + 1))
            case measure => omega
            case rel =>
              refine ⟨k + 1, _, by omega, rfl, by go_num, rfl, ch_next HNK.out HT.out ?_, ?_, HC3, fun g hg => by cases hg; exact HO3.out, fun j hj h => ?_, nodup_step hlt HND.out (fun j hj h => ?_)⟩
              · simp [dot_list]
              · rw [HDT.out, List.map_take]
                exact HR3.out
              · by_cases e : j = k
                · subst e; rw [HNE.out]; exact HN3.out
                · exact HI.out j hj (by omega)
              · rw [HNE.out]; exact (HDI.out j hj h).symm
    · obtain rfl : k = l.length := by omega
      rw [List.take_length] at HT HRW HND HCI
      have HK := Lib.hid (fun t' W hW ht' => ch24 B ea fa name l HCI.out w HG.out W t' hW ht')
      have hBr : B ≤ wr.heap.size := by have := HC.out.size; have := HBE.out; omega
      go_wp2_with (go_at_call 24; refine (HK.out t _ HC.out HT.out).mono ?_
                   rintro e w5 ⟨v5, rfl, HS5, HK5⟩
                   have HW5 : Hid (Kept B w w5) := Kept.trans ⟨[], HC.out, by simp⟩ (HK5.out.down hBr)
                   have HV5 := Lib.hid (HV.out.kept HW5.out)
                   have HR5 := Lib.hid ((StrsB.ofRow HRW.out).kept HK5.out))
      obtain ⟨a', cap', he, hs5⟩ := HV5.out.slot
      cases he
      have HSL5 := Lib.hid hs5
      clear hs5
      go_loop [84] (fun i => ∃ j : Nat, j ≤ l.length ∧ i = .int .i64 j ∧ Hid (∀ i (hi : i < l.length), i < j → xn l[i] ≠ name)) (fun i => l.length - (intOf i).toNat)
      case atStart => exact ⟨0, Nat.zero_le _, rfl, fun i hi h => absurd h (Nat.not_lt_zero _)⟩
      case round =>
        obtain ⟨j, hj, rfl, HXI⟩ := hrel
        by_cases hjl : j < l.length
        · obtain ⟨b, off, rfl, _, _, _, hc5⟩ := HSL5.out j hjl
          have hcj := hc5 j hjl
          have hnz := nameB_size (HI.out j hjl hjl)
          obtain ⟨n, hn⟩ : ∃ n, l[j] = n := ⟨_, rfl⟩
          rw [hn] at hcj hnz
          clear hc5
          by_cases hx : xn n = name
          · have hbq : (((⟨#[120]⟩ : ByteArray) ++ n).toList == name.toList) = true := by
              show ((xn n).toList == name.toList) = true
              rw [hx]; simp
            clear hx hn
            go_wp2
            go_ret
            exact ⟨rfl, HW5⟩
          · have hbq : (((⟨#[120]⟩ : ByteArray) ++ n).toList == name.toList) = false := beq_list hx
            have HXJ : Hid (∀ i (hi : i < l.length), i < j + 1 → xn l[i] ≠ name) := fun i hi h => by
              by_cases e : i = j
              · subst e; rw [hn]; exact hx
              · exact HXI.out i hi (by omega)
            clear hx hn
            by_cases h29 : (29 : Int) < (n.size : Int)
            · go_wp2
              go_ret
              exact ⟨rfl, HW5⟩
            · go_wp2
              go_round
              case rel => exact ⟨j + 1, by omega, by go_num, HXJ⟩
              case measure => simp [intOf]; omega
        · obtain rfl : j = l.length := by omega
          have HKD := Lib.hid (HCI.out.kids HND.out (fun n hn => by
            obtain ⟨i, hi, e⟩ := List.mem_iff_getElem.1 hn
            rw [← e]; exact HXI.out i hi hi))
          rw [HKD.out] at HS5
          have H19 := Lib.hid (same_eq _ _ _ _ _ _ HS5.out HR5.out (by rw [List.length_map]; omega))
          go_wp2_with (go_at_call 19; refine H19.out.mono ?_; rintro e w6 ⟨rfl, HD6⟩)
          go_ret
          exact ⟨rfl, HW5.out.trans ⟨[], HD6.out.ch [], by simp⟩⟩
end Go.Proofs.YtfnncdngfggcjaaGreatDoor
