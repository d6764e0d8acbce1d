/- FnChildren's plain law: which names begin with a name and a point; laws.same on equal texts. -/
import Derived.Test.YtfnncdngfggcjaaGreatDoorCh2
import Derived.Test.YtfnncdngfggcjaaGreatDoorPt2
namespace Go.Proofs.YtfnncdngfggcjaaGreatDoor
open Go.RowKit

theorem pre_dot : ∀ {a b : List UInt8} {r : List UInt8}, 46 ∉ a → 46 ∉ b → (b ++ [46]) <+: (a ++ 46 :: r) → a = b
  | [], [], _, _, _, _ => rfl
  | [], c :: b, r, _, hb, h => by
    simp [List.cons_prefix_cons] at h
    exact absurd (by simp [h.1]) hb
  | x :: a, [], r, ha, _, h => by
    simp [List.cons_prefix_cons] at h
    exact absurd (by simp [h]) ha
  | x :: a, c :: b, r, ha, hb, h => by
    rw [List.cons_append, List.cons_append, List.cons_prefix_cons] at h
    rw [List.mem_cons, not_or] at ha hb
    rw [h.1, pre_dot ha.2 hb.2 h.2]

theorem hasPre_iff (s p : ByteArray) : hasPre s p = true ↔ p.data.toList <+: s.data.toList := by
  have hx : (s.extract 0 p.size).data.toList = s.data.toList.take p.size := by
    rw [ByteArray.data_extract, Array.toList_extract, List.extract_eq_take_drop, List.drop_zero, Nat.sub_zero]
  unfold hasPre
  rw [Bool.and_eq_true, decide_eq_true_eq, beq_iff_eq, ByteArray.toList_eq, ByteArray.toList_eq, hx]
  constructor
  · rintro ⟨_, h⟩
    rw [← h]; exact List.take_prefix _ _
  · intro h
    have h1 := h.length_le
    have h2 : p.data.toList.length = p.size := Array.length_toList
    have h3 : s.data.toList.length = s.size := Array.length_toList
    refine ⟨by omega, ?_⟩
    have := List.prefix_iff_eq_take.1 h
    rw [h2] at this; exact this.symm

open Classical in
/-- A name goes in where it is not there. -/
noncomputable def ins (L : List ByteArray) (n : ByteArray) : List ByteArray := if n ∈ L then L else L ++ [n]
theorem secV_names (n : ByteArray) : ∀ v : List SV, (secV v n).1.map (·.1) = ins (v.map (·.1)) n
  | [] => by simp [secV, ins]
  | x :: v => by
    unfold secV
    by_cases h : x.1 = n
    · rw [if_pos h]; unfold ins; rw [if_pos (by simp [h])]
    · rw [if_neg h]
      show x.1 :: (secV v n).1.map (·.1) = _
      rw [secV_names n v]
      unfold ins
      by_cases hm : n ∈ v.map (·.1)
      · rw [if_pos hm, if_pos (by simp only [List.map_cons, List.mem_cons]; exact .inr hm)]; rfl
      · rw [if_neg hm, if_neg (by simp only [List.map_cons, List.mem_cons, not_or]; exact ⟨Ne.symm h, hm⟩)]; rfl
theorem ins_length (L : List ByteArray) (n : ByteArray) : (ins L n).length ≤ L.length + 1 := by
  unfold ins; split <;> simp
theorem ins_sub {L : List ByteArray} {n x : ByteArray} (h : x ∈ L) : x ∈ ins L n := by
  unfold ins; split
  · exact h
  · exact List.mem_append_left _ h
theorem ins_self (L : List ByteArray) (n : ByteArray) : n ∈ ins L n := by
  unfold ins; split
  · assumption
  · simp
theorem ins_mem {L : List ByteArray} {n x : ByteArray} (h : x ∈ ins L n) : x ∈ L ∨ x = n := by
  unfold ins at h; split at h
  · exact .inl h
  · simpa using h
theorem fold_sub : ∀ {ns L : List ByteArray} {x : ByteArray}, x ∈ L → x ∈ ns.foldl ins L
  | [], _, _, h => h
  | _ :: ns, _, _, h => fold_sub (ns := ns) (ins_sub h)
theorem fold_mem : ∀ {ns L : List ByteArray} {x : ByteArray}, x ∈ ns.foldl ins L → x ∈ L ∨ x ∈ ns
  | [], _, _, h => .inl h
  | n :: ns, L, x, h => by
    rcases fold_mem (ns := ns) h with h | h
    · rcases ins_mem h with h | h
      · exact .inl h
      · exact .inr (by simp [h])
    · exact .inr (List.mem_cons_of_mem _ h)
theorem fold_length : ∀ (ns L : List ByteArray), (ns.foldl ins L).length ≤ L.length + ns.length
  | [], L => by simp
  | n :: ns, L => by
    have h1 := fold_length ns (ins L n)
    have h2 := ins_length L n
    simp only [List.foldl_cons, List.length_cons]
    omega
theorem filt_keep {L : List ByteArray} {n p : ByteArray} (h : hasPre n p = false) : (ins L n).filter (fun x => hasPre x p) = L.filter fun x => hasPre x p := by
  unfold ins; split
  · rfl
  · rw [List.filter_append]; simp [h]
theorem filt_add {L : List ByteArray} {n p : ByteArray} (h : hasPre n p = true) (hn : n ∉ L.filter fun x => hasPre x p) : (ins L n).filter (fun x => hasPre x p) = (L.filter fun x => hasPre x p) ++ [n] := by
  have : n ∉ L := fun hm => hn (List.mem_filter.2 ⟨hm, h⟩)
  unfold ins
  rw [if_neg this, List.filter_append]; simp [h]

abbrev xn (n : ByteArray) : ByteArray := ⟨#[120]⟩ ++ n
abbrev yb : ByteArray := ⟨#[121]⟩
def chNames (name : ByteArray) (l : List ByteArray) : List ByteArray := l.flatMap fun n => [dot name n, dot (xn n) yb]
theorem dot_inj {name a b : ByteArray} (h : dot name a = dot name b) : a = b := by
  have h1 := congrArg (fun x : ByteArray => x.data.toList) h
  simp only [dot_list] at h1
  exact ba_ext (List.cons.inj (List.append_cancel_left h1)).2
theorem hasPre_dot (name n : ByteArray) : hasPre (dot name n) (name ++ ⟨#[46]⟩) = true := by
  rw [hasPre_iff, dot_list, app_list]
  exact ⟨n.data.toList, by simp⟩
theorem hasPre_not {name s : ByteArray} (h : 46 ∉ s.data.toList) : hasPre s (name ++ ⟨#[46]⟩) = false := by
  rw [Bool.eq_false_iff]
  intro hp
  rw [hasPre_iff, app_list] at hp
  exact h (hp.subset (by simp))
theorem hasPre_other {name n : ByteArray} (h1 : 46 ∉ name.data.toList) (h2 : 46 ∉ n.data.toList) (hne : xn n ≠ name) : hasPre (dot (xn n) yb) (name ++ ⟨#[46]⟩) = false := by
  rw [Bool.eq_false_iff]
  intro hp
  rw [hasPre_iff, dot_list, app_list] at hp
  refine hne (ba_ext (pre_dot ?_ h1 hp))
  rw [app_list]
  simpa using h2

theorem ch_filter (name : ByteArray) (h0 : 46 ∉ name.data.toList) : ∀ (l acc L : List ByteArray), L.filter (fun x => hasPre x (name ++ ⟨#[46]⟩)) = acc.map (dot name) → (acc ++ l).Nodup → (∀ n, n ∈ l → 46 ∉ n.data.toList ∧ xn n ≠ name) →
    ((chNames name l).foldl ins L).filter (fun x => hasPre x (name ++ ⟨#[46]⟩)) = (acc ++ l).map (dot name)
  | [], acc, L, h, _, _ => by simpa [chNames] using h
  | n :: l, acc, L, h, hd, hl => by
    have hn := hl n (by simp)
    have e1 : (ins L (dot name n)).filter (fun x => hasPre x (name ++ ⟨#[46]⟩)) = (acc ++ [n]).map (dot name) := by
      rw [filt_add (hasPre_dot name n), h, List.map_append]
      · rfl
      · rw [h]
        intro hm
        obtain ⟨m, hm1, hm2⟩ := List.mem_map.1 hm
        have := dot_inj hm2
        subst this
        rw [List.nodup_append] at hd
        exact hd.2.2 m hm1 m (by simp) rfl
    have e2 : (ins (ins L (dot name n)) (dot (xn n) yb)).filter (fun x => hasPre x (name ++ ⟨#[46]⟩)) = (acc ++ [n]).map (dot name) := by
      rw [filt_keep (hasPre_other h0 hn.1 hn.2), e1]
    have := ch_filter name h0 l (acc ++ [n]) _ e2 (by simpa using hd) (fun m hm => hl m (List.mem_cons_of_mem _ hm))
    simpa [chNames] using this

theorem run_names (sh : Bool) : ∀ (ns : List ByteArray) (p : PS), (runP sh p (ns.map Ln.sec)).v.map (·.1) = ns.foldl ins (p.v.map (·.1))
  | [], _ => rfl
  | n :: ns, p => by
    show (runP sh (stepP sh p (.sec n)) (ns.map Ln.sec)).v.map (·.1) = ns.foldl ins (ins (p.v.map (·.1)) n)
    rw [run_names sh ns]
    show ns.foldl ins ((secV p.v n).1.map (·.1)) = _
    rw [secV_names]
theorem ok_secs (sh t : Bool) : ∀ (ns : List ByteArray) (p : PS), (∀ n, n ∈ ns → NameB n) → p.v.length + ns.length ≤ 100 → okRun sh t p (ns.map Ln.sec)
  | [], _, _, _ => trivial
  | n :: ns, p, h, hl => by
    have h1 : (secV p.v n).1.length ≤ p.v.length + 1 := by
      have h3 := congrArg List.length (secV_names n p.v)
      have h2 := ins_length (p.v.map (·.1)) n
      rw [List.length_map] at h3 h2
      omega
    rw [List.length_cons] at hl
    exact ⟨⟨h n (by simp), by omega⟩, ok_secs sh t ns _ (fun m hm => h m (List.mem_cons_of_mem _ hm)) (by show (secV p.v n).1.length + ns.length ≤ 100; omega)⟩
theorem secs_length (b : Nat) : ∀ (ns : List ByteArray), (∀ n, n ∈ ns → n.size ≤ b) → (textOf (ns.map Ln.sec)).length ≤ ns.length * (b + 3)
  | [], _ => Nat.zero_le _
  | n :: ns, h => by
    have h1 := secs_length b ns (fun m hm => h m (List.mem_cons_of_mem _ hm))
    have h2 := h n (by simp)
    rw [List.map_cons, textOf_length, sec_length, List.length_cons, Nat.add_mul, Nat.one_mul]
    omega

theorem xn_list (n : ByteArray) : (xn n).data.toList = 120 :: n.data.toList := by rw [app_list]; rfl
theorem xn_size (n : ByteArray) : (xn n).size = n.size + 1 := by rw [← toList_length, xn_list, List.length_cons, toList_length]
theorem xn_name {n : ByteArray} (h : isNameB n = true) : NameB (xn n) := by
  have h1 := nameB_size h
  have h2 := nameB_of h
  refine ⟨by rw [xn_size]; omega, by rw [xn_size]; omega, fun i hi => ?_⟩
  rw [xn_size] at hi
  unfold bt
  rw [xn_list]
  cases i with
  | zero => show nameCh 120 = true; decide
  | succ i => rw [List.getD_cons_succ]; exact h2.ch i (by omega)
theorem yb_name : NameB yb := ⟨by decide, by decide, fun i hi => by
  have : i = 0 := by have : yb.size = 1 := rfl; omega
  subst this; decide⟩
theorem nodot_list {n : ByteArray} (h : isNameB n = true) : 46 ∉ n.data.toList := fun hm => by
  obtain ⟨i, hi⟩ := List.getElem?_of_mem hm
  have hlt := (List.getElem?_eq_some_iff.1 hi).1
  rw [toList_length] at hlt
  refine nodot h i hlt ?_
  unfold bt
  rw [List.getD_eq_getElem?_getD, hi]; rfl

theorem chNames_mem {name x : ByteArray} {l : List ByteArray} (h : x ∈ chNames name l) : ∃ n, n ∈ l ∧ (x = dot name n ∨ x = dot (xn n) yb) := by
  unfold chNames at h
  obtain ⟨n, hn, hx⟩ := List.mem_flatMap.1 h
  exact ⟨n, hn, by simpa using hx⟩
theorem chNames_length (name : ByteArray) : ∀ l : List ByteArray, (chNames name l).length = 2 * l.length
  | [] => rfl
  | n :: l => by
    have := chNames_length name l
    unfold chNames at this ⊢
    rw [List.flatMap_cons, List.length_append, this]; simp; omega
theorem chNames_take {name : ByteArray} {l : List ByteArray} {k : Nat} (hk : k < l.length) : chNames name (l.take (k + 1)) = chNames name (l.take k) ++ [dot name l[k], dot (xn l[k]) yb] := by
  unfold chNames
  rw [List.take_succ_eq_append_getElem hk, List.flatMap_append]; simp
theorem textOf_app : ∀ a b : List Ln, textOf (a ++ b) = textOf a ++ textOf b
  | [], _ => rfl
  | x :: a, b => by show x.body ++ 10 :: textOf (a ++ b) = (x.body ++ 10 :: textOf a) ++ textOf b; rw [textOf_app a b]; simp

/-- The law's premises, of the names up to some one. -/
structure ChIn (name : ByteArray) (l : List ByteArray) : Prop where
  hn : isNameB name = true
  hl : ∀ n, n ∈ l → isNameB n = true
  len : l.length ≤ 10

def chLines (name : ByteArray) (l : List ByteArray) : List Ln := (name :: chNames name l).map Ln.sec
theorem ChIn.names {name : ByteArray} {l : List ByteArray} (h : ChIn name l) : ∀ x, x ∈ name :: chNames name l → NameB x ∧ x.size ≤ 61 := fun x hx => by
  have hz := nameB_size h.hn
  rcases List.mem_cons.1 hx with rfl | hx
  · exact ⟨nameB_of h.hn, by omega⟩
  · obtain ⟨n, hn, hx⟩ := chNames_mem hx
    have h1 := h.hl n hn
    have h2 := nameB_size h1
    rcases hx with rfl | rfl
    · exact ⟨dot_name (nameB_of h.hn) (nameB_of h1) (by omega), by rw [dot_size]; omega⟩
    · have hy : yb.size = 1 := rfl
      exact ⟨dot_name (xn_name h1) yb_name (by rw [xn_size]; omega), by rw [dot_size, xn_size]; omega⟩
theorem ChIn.text {name : ByteArray} {l : List ByteArray} (h : ChIn name l) : (textOf (chLines name l)).length ≤ 1400 := by
  have h1 := secs_length 61 _ (fun n hn => (h.names n hn).2)
  have h2 := chNames_length name l
  have h3 := h.len
  unfold chLines
  rw [List.length_cons, h2] at h1
  omega
theorem ChIn.ok {name txt : ByteArray} {l : List ByteArray} (h : ChIn name l) (ht : txt.data.toList = textOf (chLines name l)) : TextOK false false (chLines name l) txt := by
  have h2 := chNames_length name l
  have h3 := h.len
  have h4 := h.text
  refine TextOK.of ht (head_sec _ _ (nameB_size h.hn).1) (by omega) (ok_secs _ _ _ _ (fun n hn => (h.names n hn).1) ?_)
  show 1 + (name :: chNames name l).length ≤ 100
  rw [List.length_cons, h2]; omega
theorem ChIn.run {name : ByteArray} {l : List ByteArray} : (runP false ⟨[(dflt, [])], 0, 1⟩ (chLines name l)).v.map (·.1) = (name :: chNames name l).foldl ins [dflt] := run_names _ _ _
theorem ChIn.in {name : ByteArray} {l : List ByteArray} : name ∈ (runP false ⟨[(dflt, [])], 0, 1⟩ (chLines name l)).v.map (·.1) := by
  rw [ChIn.run]
  exact fold_sub (ns := chNames name l) (ins_self _ _)
theorem ChIn.vlen {name : ByteArray} {l : List ByteArray} (h : ChIn name l) : (runP false ⟨[(dflt, [])], 0, 1⟩ (chLines name l)).v.length ≤ 1000 := by
  have h1 := congrArg List.length (ChIn.run (name := name) (l := l))
  have h2 := fold_length (name :: chNames name l) [dflt]
  have h3 := chNames_length name l
  have h4 := h.len
  rw [List.length_map] at h1
  have h6 : (name :: chNames name l).length = 2 * l.length + 1 := by rw [List.length_cons, h3]
  rw [h6] at h2
  have h5 : ([dflt] : List ByteArray).length = 1 := rfl
  omega
theorem ChIn.vnm {name : ByteArray} {l : List ByteArray} (h : ChIn name l) : ∀ x, x ∈ (runP false ⟨[(dflt, [])], 0, 1⟩ (chLines name l)).v.map (·.1) → x.size ≤ 1000 := fun x hx => by
  rw [ChIn.run] at hx
  rcases fold_mem hx with h1 | h1
  · have : x = dflt := by simpa using h1
    subst this; decide
  · have := (h.names x h1).2; omega
theorem ChIn.kids {name : ByteArray} {l : List ByteArray} (h : ChIn name l) (hd : l.Nodup) (hx : ∀ n, n ∈ l → xn n ≠ name) : kidNames (runP false ⟨[(dflt, [])], 0, 1⟩ (chLines name l)).v (name ++ ⟨#[46]⟩) = l.map (dot name) := by
  have h0 := nodot_list h.hn
  unfold kidNames
  rw [ChIn.run]
  refine ch_filter name h0 l [] (ins [dflt] name) ?_ (by simpa using hd) (fun n hn => ⟨nodot_list (h.hl n hn), hx n hn⟩)
  rw [filt_keep (hasPre_not h0)]
  have : hasPre dflt (name ++ ⟨#[46]⟩) = false := hasPre_not (by decide)
  simp [this]

theorem StrsB.slot {B : Nat} {w : World} {v : Value} {l : List ByteArray} (h : StrsB B w v l) : ∃ a cap, v = .slice a l.length cap ∧ ∀ k (_hk : k < l.length), ∃ b off, a = some ⟨b, off, none⟩ ∧ l.length ≤ cap ∧ b < w.heap.size ∧ b < B ∧ ∀ j (hj : j < l.length), w.cell? ⟨b, off + j, none⟩ = some (.string l[j]) := by
  rcases h with ⟨p, c, rfl, rfl⟩ | ⟨b, off, cap, rfl, h0, hcap, hbB, hbw, hc⟩
  · exact ⟨p, c, rfl, fun k hk => absurd hk (Nat.not_lt_zero _)⟩
  · exact ⟨_, cap, rfl, fun k _ => ⟨b, off, rfl, hcap, hbw, hbB, hc⟩⟩

set_option maxRecDepth 100000 in
set_option maxHeartbeats 1000000 in
theorem same_eq (B1 B2 : Nat) (v1 v2 : Value) (l : List ByteArray) (w : World) (h1 : StrsB B1 w v1 l) (h2 : StrsB B2 w v2 l) (hl : l.length ≤ 1000000) :
    Calls Tryz.prog 19 #[v1, v2] w fun e w' => e = .returned (.bool true) ∧ Hid (Dr w w') := by
  obtain ⟨a1, c1, rfl, hs1⟩ := h1.slot
  obtain ⟨a2, c2, rfl, hs2⟩ := h2.slot
  have H1 := Lib.hid hs1
  have H2 := Lib.hid hs2
  clear h1 h2 hs1 hs2
  go_enter Tryz.func19, Tryz.ntmps19
  go_wp2
  go_loopg [13] (l.length + 1) (fun gf i wx => ∃ k : Nat, k ≤ l.length ∧ gf = l.length + 1 - k ∧ i = .int .i64 k ∧ Hid (Dr w wx))
  case atStart => exact ⟨0, Nat.zero_le _, rfl, rfl, Dr.refl w⟩
  case round =>
    obtain ⟨k, hk, hgk, rfl, HD⟩ := hrel
    by_cases hlt : k < l.length
    · obtain ⟨b1, o1, rfl, _, _, _, hc1⟩ := H1.out k hlt
      obtain ⟨b2, o2, rfl, _, _, _, hc2⟩ := H2.out k hlt
      have hx1 := (HD.out.cell _).trans (hc1 k hlt)
      have hx2 := (HD.out.cell _).trans (hc2 k hlt)
      clear hc1 hc2
      obtain ⟨x, hx⟩ : ∃ x, l[k] = x := ⟨_, rfl⟩
      rw [hx] at hx1 hx2
      clear hx
      have hbq : (x.toList == x.toList) = true := by simp
      go_wp2
      go_quiet (fail)
      go_wp2
      go_roundg (l.length + 1 - (k + 1))
      case measure => omega
      case rel => exact ⟨k + 1, by omega, rfl, by go_num, HD.out.drewN _⟩
    · obtain rfl : k = l.length := by omega
      go_wp2
      go_ret
      exact ⟨rfl, HD⟩
end Go.Proofs.YtfnncdngfggcjaaGreatDoor
