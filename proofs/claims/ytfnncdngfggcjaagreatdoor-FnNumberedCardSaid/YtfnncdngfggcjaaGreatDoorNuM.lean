/- FnNumbered's plain law: the numbers of keys '-'. FnNumbered's text may be parsed. (Builds only where okStep lets keys '-' through: see NOTES.md, 'dash'.) FnNumbered: its text, and what impl.Load tells of it. The walk of laws.FnNumbered. -/
import Derived.Test.YtfnncdngfggcjaaGreatDoorNm2
import Derived.Test.YtfnncdngfggcjaaGreatDoorPt2
import Derived.Test.YtfnncdngfggcjaaGreatDoorSo5
import Derived.Test.YtfnncdngfggcjaaGreatDoorIn2
import Derived.BigQuiet

namespace Go.Proofs.YtfnncdngfggcjaaGreatDoor
open Go.RowKit

theorem decDigits_inj {a b : Nat} (ha : a < 100) (hb : b < 100) (h : Lib.decDigits a = Lib.decDigits b) : a = b := by
  have hu : ∀ x y : Nat, x < 10 → y < 10 → UInt8.ofNat (48 + x) = UInt8.ofNat (48 + y) → x = y := fun x y hx hy e => by
    have e1 := congrArg UInt8.toNat e
    have t : ∀ z : Nat, z < 10 → (UInt8.ofNat (48 + z)).toNat = 48 + z := fun z hz => by rw [UInt8.toNat_ofNat']; omega
    rw [t x hx, t y hy] at e1
    omega
  by_cases h1 : a < 10
  · by_cases h2 : b < 10
    · rw [Lib.decDigits_one h1, Lib.decDigits_one h2] at h
      exact hu a b h1 h2 (List.cons.inj h).1
    · rw [Lib.decDigits_one h1, Lib.decDigits_two h2 hb] at h
      simp at h
  · by_cases h2 : b < 10
    · rw [Lib.decDigits_two h1 ha, Lib.decDigits_one h2] at h
      simp at h
    · rw [Lib.decDigits_two h1 ha, Lib.decDigits_two h2 hb] at h
      have e1 := hu _ _ (by omega) (by omega) (List.cons.inj h).1
      have e2 := hu _ _ (by omega) (by omega) (List.cons.inj (List.cons.inj h).2).1
      omega
theorem numName_list (n : Nat) : (numName n).data.toList = 35 :: Lib.decDigits n := by unfold numName; rw [app_list]; rfl
theorem numName_inj {a b : Nat} (ha : a < 100) (hb : b < 100) (h : numName a = numName b) : a = b := by
  have h1 := congrArg (fun x : ByteArray => x.data.toList) h
  simp only [numName_list] at h1
  exact decDigits_inj ha hb (List.cons.inj h1).2

/-- The keys that lines '- = v' make, counted from c. -/
def numbered : Nat → List ByteArray → List KV
  | _, [] => []
  | c, x :: l => (numName c, x, []) :: numbered (c + 1) l
theorem numbered_length : ∀ (c : Nat) (l : List ByteArray), (numbered c l).length = l.length
  | _, [] => rfl
  | c, x :: l => by show (numbered (c + 1) l).length + 1 = l.length + 1; rw [numbered_length]
theorem numbered_get : ∀ (c : Nat) (l : List ByteArray) (i : Nat) (h : i < l.length), (numbered c l)[i]? = some (numName (c + i), l[i], [])
  | c, x :: l, 0, _ => rfl
  | c, x :: l, i + 1, h => by
    show (numbered (c + 1) l)[i]? = _
    rw [numbered_get (c + 1) l i (by simpa using h), show c + 1 + i = c + (i + 1) by omega]; rfl

theorem run_numbered (s : ByteArray) : ∀ (l : List ByteArray) (ks : List KV) (c : Nat), (∀ x, x ∈ ks.map (·.1) → ∃ j, j < c ∧ x = numName j) → c + l.length ≤ 100 →
    runP false ⟨[(dflt, []), (s, ks)], 1, c⟩ (l.map fun v => Ln.key dash v) = ⟨[(dflt, []), (s, ks ++ numbered c l)], 1, c + l.length⟩
  | [], ks, c, _, _ => by simp [numbered, runP]
  | x :: l, ks, c, hks, hc => by
    rw [List.length_cons] at hc
    have hfresh : numName c ∉ ks.map (·.1) := fun hm => by
      obtain ⟨j, hj, e⟩ := hks _ hm
      have := numName_inj (by omega) (by omega) e
      omega
    have hst : stepP false ⟨[(dflt, []), (s, ks)], 1, c⟩ (.key dash x) = ⟨[(dflt, []), (s, ks ++ [(numName c, x, [])])], 1, c + 1⟩ := by
      have hk : keyOf c dash = numName c := if_pos rfl
      show (⟨putV false [(dflt, []), (s, ks)] 1 (keyOf c dash) x, 1, if dash = dash then c + 1 else c⟩ : PS) = _
      rw [hk, if_pos rfl]
      unfold putV
      simp [putK_new hfresh]
    show runP false (stepP false ⟨[(dflt, []), (s, ks)], 1, c⟩ (.key dash x)) (l.map fun v => Ln.key dash v) = _
    rw [hst, run_numbered s l (ks ++ [(numName c, x, [])]) (c + 1) (fun y hy => by
      rw [List.map_append, List.mem_append] at hy
      rcases hy with hy | hy
      · obtain ⟨j, hj, e⟩ := hks y hy; exact ⟨j, by omega, e⟩
      · exact ⟨c, by omega, by simpa using hy⟩) (by omega)]
    simp [numbered]; omega
end Go.Proofs.YtfnncdngfggcjaaGreatDoor

namespace Go.Proofs.YtfnncdngfggcjaaGreatDoor
open Go.RowKit

theorem dash_name : NameB dash := ⟨by decide, by decide, fun i hi => by
  have : i = 0 := by have : dash.size = 1 := rfl; omega
  subst this; decide⟩
theorem ok_numbered (s : ByteArray) : ∀ (l : List ByteArray) (ks : List KV) (c : Nat), (∀ v, v ∈ l → ValB v) → (∀ x, x ∈ ks.map (·.1) → ∃ j, j < c ∧ x = numName j) → c + l.length ≤ 100 → ks.length + l.length ≤ 1000 →
    okRun false true ⟨[(dflt, []), (s, ks)], 1, c⟩ (l.map fun v => Ln.key dash v)
  | [], _, _, _, _, _, _ => trivial
  | x :: l, ks, c, hv, hks, hc, hl => by
    rw [List.length_cons] at hc hl
    have hk : keyOf c dash = numName c := if_pos rfl
    have hfresh : numName c ∉ ks.map (·.1) := fun hm => by
      obtain ⟨j, hj, e⟩ := hks _ hm
      have := numName_inj (by omega) (by omega) e
      omega
    have hst : stepP false ⟨[(dflt, []), (s, ks)], 1, c⟩ (.key dash x) = ⟨[(dflt, []), (s, ks ++ [(numName c, x, [])])], 1, c + 1⟩ := by
      show (⟨putV false [(dflt, []), (s, ks)] 1 (keyOf c dash) x, 1, if dash = dash then c + 1 else c⟩ : PS) = _
      rw [hk, if_pos rfl]
      unfold putV
      simp [putK_new hfresh]
    refine ⟨⟨rfl, dash_name, hv x (by simp), by show c < 100; omega, (s, ks), rfl, by show ks.length ≤ 1000; omega, ?_⟩, ?_⟩
    · show keyOf c dash ∉ ks.map (·.1) ∨ _
      rw [hk]; exact .inl hfresh
    · rw [hst]
      refine ok_numbered s l _ (c + 1) (fun v h => hv v (List.mem_cons_of_mem _ h)) (fun y hy => ?_) (by omega) (by rw [List.length_append]; simp; omega)
      rw [List.map_append, List.mem_append] at hy
      rcases hy with hy | hy
      · obtain ⟨j, hj, e⟩ := hks y hy; exact ⟨j, by omega, e⟩
      · exact ⟨c, by omega, by simpa using hy⟩
end Go.Proofs.YtfnncdngfggcjaaGreatDoor

namespace Go.Proofs.YtfnncdngfggcjaaGreatDoor
open Go.RowKit

abbrev nuS : ByteArray := ⟨#[115]⟩
def nuLines (l : List ByteArray) : List Ln := .sec nuS :: l.map (Ln.key dash)
/-- The law's premises. -/
structure NuIn (l : List ByteArray) : Prop where
  pl : ∀ v, v ∈ l → isPlain v = true
  len : l.length ≤ 20
theorem nuS_ne : nuS ≠ dflt := fun h => absurd (congrArg ByteArray.size h) (by decide)
theorem nuS_name : NameB nuS := ⟨by decide, by decide, fun i hi => by
  have : i = 0 := by have : nuS.size = 1 := rfl; omega
  subst this; decide⟩
theorem nu_first : stepP false ⟨[(dflt, [])], 0, 1⟩ (.sec nuS) = ⟨[(dflt, []), (nuS, [])], 1, 1⟩ :=
  step_sec_new (p := ⟨[(dflt, [])], 0, 1⟩) (by show nuS ∉ [dflt]; rw [List.mem_singleton]; exact nuS_ne)
theorem nu_run {l : List ByteArray} (h : l.length ≤ 20) : (runP false ⟨[(dflt, [])], 0, 1⟩ (nuLines l)).v = [(dflt, []), (nuS, numbered 1 l)] := by
  show (runP false (stepP false ⟨[(dflt, [])], 0, 1⟩ (.sec nuS)) (l.map fun v => Ln.key dash v)).v = _
  rw [nu_first, run_numbered nuS l [] 1 (fun x hx => by cases hx) (by omega)]
  rfl
theorem nu_text_len : ∀ (l : List ByteArray), (∀ v, v ∈ l → isPlain v = true) → (textOf (l.map (Ln.key dash))).length ≤ l.length * 65
  | [], _ => Nat.le_refl _
  | v :: l, h => by
    have h1 := nu_text_len l (fun x hx => h x (List.mem_cons_of_mem _ hx))
    have h2 := plain_size (h v (by simp))
    have h3 : dash.size = 1 := rfl
    rw [List.map_cons, textOf_length, key_length, List.length_cons, h3]
    omega
theorem NuIn.text {l : List ByteArray} (h : NuIn l) : (textOf (nuLines l)).length ≤ 1304 := by
  unfold nuLines
  rw [textOf_length, sec_length]
  have h1 := nu_text_len l h.pl
  have h2 := h.len
  have h3 : nuS.size = 1 := rfl
  omega
theorem NuIn.ok {l : List ByteArray} (h : NuIn l) {txt : ByteArray} (ht : txt.data.toList = textOf (nuLines l)) : TextOK false true (nuLines l) txt := by
  refine TextOK.of ht (head_sec nuS _ (by decide)) (by have := h.text; omega) ?_
  refine ⟨⟨nuS_name, by simp⟩, ?_⟩
  rw [nu_first]
  exact ok_numbered nuS l [] 1 (fun v hv => valB_of (h.pl v hv)) (fun x hx => by cases hx) (by have := h.len; omega) (by have := h.len; simp; omega)
theorem NuIn.told {l : List ByteArray} (h : NuIn l) : Told false (runP false ⟨[(dflt, [])], 0, 1⟩ (nuLines l)).v := by
  rw [nu_run h.len]
  refine ⟨by simp, by simp, fun s hs => ?_, fun e => by cases e⟩
  simp only [List.mem_cons, List.not_mem_nil, or_false] at hs
  rcases hs with rfl | rfl
  · simp
  · show (numbered 1 l).length ≤ 1000
    rw [numbered_length]; have := h.len; omega

/-- What is told of two sections, the first one empty. -/
structure TwoT (w : World) (g : Nat) (kv : Value) (ks : List KV) : Prop where
  gl : g < w.heap.size
  c5 : w.cell? ⟨g, 5, none⟩ = some kv
  keys : KeysT w false ks kv
theorem twoT_of {w : World} {a : Option Addr} {c : Nat} {n1 n2 : ByteArray} {ks : List KV} (h : SecsT w false [(n1, []), (n2, ks)] (.slice a 2 c)) : ∃ g kv, a = some ⟨g, 0, none⟩ ∧ 2 ≤ c ∧ TwoT w g kv ks := by
  obtain ⟨l, h1, h2, h3⟩ := h
  have hl : l.length = 2 := by have := congrArg List.length h1; simpa using this
  obtain ⟨p, q, rfl⟩ : ∃ p q, l = [p, q] := by
    match l, hl with
    | [p, q], _ => exact ⟨p, q, rfl⟩
  simp only [List.map_cons, List.map_nil, List.cons.injEq, and_true] at h1
  obtain ⟨e1, e2⟩ := h1
  obtain ⟨p1, p2⟩ := p
  obtain ⟨q1, q2⟩ := q
  subst e1
  subst e2
  obtain ⟨a', c', e, hc⟩ := h2.form
  cases e
  obtain ⟨g, rfl, hg, hcell⟩ := hc 5 q2 rfl
  refine ⟨g, q2, rfl, ?_, hg, hcell, h3 ((n2, ks), q2) (by simp)⟩
  obtain ⟨cur, cap, e, _, hle, _⟩ := h2.blk (g := g) rfl
  cases e
  exact hle
/-- The cells of keys that are told. -/
theorem KeysT.cellsF {w : World} {ks : List KV} {kv : Value} (h : KeysT w false ks kv) : ∃ a c, kv = .slice a ks.length c ∧ ∀ j x, ks[j]? = some x → ∃ g, a = some ⟨g, 0, none⟩ ∧ ks.length ≤ c ∧ g < w.heap.size ∧ w.cell? ⟨g, j * 4, none⟩ = some (.string x.1) ∧
    w.cell? ⟨g, j * 4 + 1, none⟩ = some (.string x.2.1) ∧ w.cell? ⟨g, j * 4 + 2, none⟩ = some (.string es) ∧ w.cell? ⟨g, j * 4 + 3, none⟩ = some (.slice none 0 0) := by
  obtain ⟨l, h1, h2, h3⟩ := h
  obtain ⟨a, c, rfl, hc⟩ := h2.form
  refine ⟨a, c, rfl, fun j x hx => ?_⟩
  rw [← h1, List.getElem?_map] at hx
  obtain ⟨p, hp, rfl⟩ := Option.map_eq_some_iff.1 hx
  have hs : p.2 = .slice none 0 0 := h3 p (List.mem_of_getElem? hp)
  have at4 := keyRow_at hp
  obtain ⟨g, rfl, hg, c0⟩ := hc (j * 4) (.string p.1.1) (by have := at4 0 (by decide); rw [Nat.add_zero] at this; rw [this]; rfl)
  obtain ⟨g1, e1, _, c1⟩ := hc (j * 4 + 1) (.string p.1.2.1) (by rw [at4 1 (by decide)]; rfl)
  obtain ⟨g2, e2, _, c2⟩ := hc (j * 4 + 2) (.string es) (by rw [at4 2 (by decide)]; rfl)
  obtain ⟨g3, e3, _, c3⟩ := hc (j * 4 + 3) (.slice none 0 0) (by rw [at4 3 (by decide), hs.symm]; rfl)
  cases e1; cases e2; cases e3
  obtain ⟨cur, cap, e, _, hle, _⟩ := h2.blk (g := g) rfl
  cases e
  exact ⟨g, rfl, hle, hg, c0, c1, c2, c3⟩

theorem nu26 (B : Nat) (ea fa : Addr) (l : List ByteArray) (h : NuIn l) (w : World) (g : Glob w B ea fa) (htab : SpcTab w) (W : World) (txt : ByteArray) (hW : Ch [] w W) (ht : txt.data.toList = textOf (nuLines l)) :
    Calls Tryz.prog 26 #[.int .i64 0, .string txt] W fun e w' => ∃ g c kv, e = .returned (.tuple #[.slice (some ⟨g, 0, none⟩) 2 c, .bool true]) ∧ 2 ≤ c ∧ Hid (TwoT w' g kv (numbered 1 l)) ∧ Hid (Kept W.heap.size W w') := by
  refine (load_of W.heap.size ea fa 0 false true (.inl ⟨rfl, rfl⟩) (nuLines l) txt W (h.ok ht) (g.ch hW (by simp)).up (fun _ => htab.nil hW) h.told).mono ?_
  rw [nu_run h.len]
  rintro e w' ⟨a, c, rfl, hs, hk⟩
  obtain ⟨g', kv, rfl, hc, ht⟩ := twoT_of hs.out
  exact ⟨g', c, kv, rfl, hc, ht, hk⟩

theorem nu_next {l : List ByteArray} {k : Nat} {n t t' : ByteArray} (hk : l[k]? = some n) (ht : t.data.toList = textOf (nuLines (l.take k)))
    (ht' : t'.data.toList = t.data.toList ++ ([45, 32, 61, 32] ++ n.data.toList ++ [10])) : t'.data.toList = textOf (nuLines (l.take (k + 1))) := by
  obtain ⟨hlt, hn⟩ := List.getElem?_eq_some_iff.1 hk
  subst hn
  unfold nuLines at ht ⊢
  have happ : ∀ (a b : List Ln), textOf (a ++ b) = textOf a ++ textOf b := fun a b => by
    induction a with
    | nil => rfl
    | cons x a ih => show x.body ++ 10 :: textOf (a ++ b) = (x.body ++ 10 :: textOf a) ++ textOf b; rw [ih]; simp
  rw [List.take_succ_eq_append_getElem hlt, List.map_append, ← List.cons_append, happ, ← ht, ht']
  simp [textOf, Ln.body]
theorem NuIn.take {l : List ByteArray} {k : Nat} (h : ∀ j (hj : j < l.length), j < k → isPlain l[j] = true) (hl : l.length ≤ 20) : NuIn (l.take k) :=
  ⟨fun n hm => by
    obtain ⟨j, hj, e⟩ := List.mem_iff_getElem.1 hm
    rw [List.getElem_take] at e
    rw [List.length_take] at hj
    rw [← e]; exact h j (by omega) (by omega), by rw [List.length_take]; omega⟩
end Go.Proofs.YtfnncdngfggcjaaGreatDoor

namespace Go.Proofs.YtfnncdngfggcjaaGreatDoor
open Go.RowKit

theorem StrsB.slotN {B : Nat} {w : World} {v : Value} {l : List ByteArray} (h : StrsB B w v l) : ∃ a cap, v = .slice a l.length cap ∧ ∀ k (_hk : k < l.length), ∃ b off, a = some ⟨b, off, none⟩ ∧ l.length ≤ cap ∧ b < w.heap.size ∧ b < B ∧ ∀ j (hj : j < l.length), w.cell? ⟨b, off + j, none⟩ = some (.string l[j]) := by
  rcases h with ⟨p, c, rfl, rfl⟩ | ⟨b, off, cap, rfl, h0, h1, h2, h3, h4⟩
  · exact ⟨p, c, rfl, fun k hk => absurd hk (Nat.not_lt_zero _)⟩
  · exact ⟨_, cap, rfl, fun k _ => ⟨b, off, rfl, h1, h3, h2, h4⟩⟩

theorem dec_size (n : Nat) (h : n < 100) : (⟨(Lib.decDigits n).toArray⟩ : ByteArray).size ≤ 2 := by
  rw [size_list]
  by_cases h1 : n < 10
  · rw [Lib.decDigits_one h1]; simp
  · rw [Lib.decDigits_two h1 h]; simp

set_option maxRecDepth 100000 in
set_option maxHeartbeats 8000000 in
theorem fnNumbered_walk (B : Nat) (ea fa : Addr) (v : Value) (l : List ByteArray) (w : World) (g : Glob w B ea fa) (htab : SpcTab w) (hB : B = w.heap.size) (h : StrsB B w v l) (hl : l.length ≤ maxLen) :
    Calls Tryz.prog 8 #[v] w fun e w' => e = .returned (.bool true) ∧ Hid (Kept B w w') := by
  have HF0 := zzFits5_any B v l w h hl
  cases hf : fitsB l with
  | false =>
    rw [hf] at HF0
    have HF := Lib.hid HF0
    clear HF0 g h hf htab
    go_enter Tryz.func8, Tryz.ntmps8
    go_wp2_with (go_at_call 23; refine HF.out.mono ?_; rintro e w' ⟨rfl, rfl⟩)
    go_ret
    exact ⟨rfl, Kept.refl B w⟩
  | true =>
  rw [hf] at HF0
  have HF := Lib.hid HF0
  clear HF0
  have HFA : Hid (∀ k (h : k < l.length), l[k].size ≤ 2147483647) := fun k hk => fitsB_at hf (List.getElem_mem hk)
  have hlen := fitsB_len hf
  obtain ⟨a, cap, rfl, hsl⟩ := h.slotN
  have HV := Lib.hid h
  have HSL := Lib.hid hsl
  clear h hf hsl
  by_cases h20 : (20 : Int) < (l.length : Int)
  · clear g htab
    go_enter Tryz.func8, Tryz.ntmps8
    go_wp2_with (go_at_call 23; refine HF.out.mono ?_; rintro e w' ⟨rfl, rfl⟩)
    go_ret
    exact ⟨rfl, Kept.refl B w⟩
  have HG := Lib.hid g
  have HTAB := Lib.hid htab
  have HBE := Lib.hid hB
  have hl20 : l.length ≤ 20 := by omega
  clear g hB htab
  go_enter Tryz.func8, Tryz.ntmps8
  go_wp2_with (go_at_call 23; refine HF.out.mono ?_; rintro e w' ⟨rfl, rfl⟩)
  clear HF
  go_loop [3, 18] (fun s3 s18 => ∃ (k : Nat) (t : ByteArray), k ≤ l.length ∧ s18 = .int .i64 k ∧ s3 = .string t ∧ Hid (t.data.toList = textOf (nuLines (l.take k))) ∧ Hid (∀ j (hj : j < l.length), j < k → isPlain l[j] = true)) (fun _ i => l.length - (intOf i).toNat)
  case atStart =>
    exact ⟨0, _, Nat.zero_le _, rfl, rfl, (by simp [nuLines, textOf, Ln.body]; exact trivial), fun j hj h => absurd h (Nat.not_lt_zero _)⟩
  case round =>
    obtain ⟨k, t, hk, rfl, rfl, HT, HI⟩ := hrel
    have HCI : Hid (NuIn (l.take k)) := NuIn.take HI.out hl20
    have htz : t.size ≤ 1304 := by
      have h1 := HCI.out.text
      have h2 := HT.out
      rw [← h2, toList_length] at h1
      exact h1
    by_cases hlt : k < l.length
    · obtain ⟨b, off, rfl, hcp, hbw, _, hcl⟩ := HSL.out k hlt
      have hcell := hcl k hlt
      obtain ⟨n, hn⟩ : ∃ n, l[k] = n := ⟨_, rfl⟩
      have hnk : l[k]? = some n := by rw [List.getElem?_eq_getElem hlt, hn]
      have hnz1 := HFA.out k hlt
      have HNK := Lib.hid hnk
      have HNE := Lib.hid hn
      rw [hn] at hcell hnz1
      clear hcl hn hnk
      cases h2 : isPlain n with
      | false =>
        have HN2 := isPlain_hid n false h2 (by omega)
        clear h2
        go_wp2_with (go_at_call 21; refine (HN2.out _).mono ?_; rintro e w' ⟨rfl, rfl⟩)
        go_ret
        exact ⟨rfl, Kept.refl B w⟩
      | true =>
        have HN2 := isPlain_hid n true h2 (by omega)
        have HN3 := Lib.hid h2
        have hnz2 := plain_size h2
        clear h2
        go_wp2_with (go_at_call 21; refine (HN2.out _).mono ?_; rintro e w' ⟨rfl, rfl⟩)
        go_round
        case rel =>
          refine ⟨k + 1, _, by omega, by go_num, rfl, nu_next HNK.out HT.out (by simp), fun j hj h => ?_⟩
          by_cases e : j = k
          · subst e; rw [HNE.out]; exact HN3.out
          · exact HI.out j hj (by omega)
        case measure => simp [intOf]; omega
    · obtain rfl : k = l.length := by omega
      rw [List.take_length] at HT HCI
      have HK := Lib.hid (nu26 B ea fa l HCI.out w HG.out HTAB.out w t (Ch.refl [] w) HT.out)
      have hBr : B ≤ w.heap.size := by have := HBE.out; omega
      go_wp2_with (go_at_call 26; refine HK.out.mono ?_
                   rintro e w5 ⟨g5, c5, kv5, rfl, hc5, HT5, HK5⟩
                   have HW5 : Hid (Kept B w w5) := HK5.out.down hBr
                   have HV5 := Lib.hid (HV.out.kept HW5.out)
                   obtain ⟨ak, ck, hkv, hkc⟩ := HT5.out.keys.cellsF
                   have hg5 := HT5.out.c5
                   have hg5l := HT5.out.gl
                   rw [numbered_length] at hkv
                   subst hkv
                   have HKC := Lib.hid hkc
                   clear hkc)
      obtain ⟨a', cap', he, hs5⟩ := HV5.out.slotN
      cases he
      have HSL5 := Lib.hid hs5
      clear hs5 hg5 htz
      go_loopg [58] (l.length + 1) (fun gf s58 wx => ∃ j : Nat, j ≤ l.length ∧ gf = l.length + 1 - j ∧ s58 = .int .i64 j ∧ Hid (Ch [] w5 wx))
      case atStart => exact ⟨0, Nat.zero_le _, rfl, rfl, Ch.refl _ _⟩
      case round =>
        obtain ⟨j, hj, hgj, rfl, HC⟩ := hrel
        by_cases hjl : j < l.length
        · obtain ⟨b, off, rfl, _, hbw, _, hc5'⟩ := HSL5.out j hjl
          obtain ⟨gq, rfl, hqc, hql, q0, q1, q2, q3⟩ := HKC.out j _ (numbered_get 1 l j hjl)
          have hcv := (HC.out.cell (p := ⟨b, off + j, none⟩) hbw (by simp)).trans (hc5' j hjl)
          have k0 := (HC.out.cell (p := ⟨gq, j * 4, none⟩) hql (by simp)).trans q0
          have k1 := (HC.out.cell (p := ⟨gq, j * 4 + 1, none⟩) hql (by simp)).trans q1
          have k2 := (HC.out.cell (p := ⟨gq, j * 4 + 2, none⟩) hql (by simp)).trans q2
          have k3 := (HC.out.cell (p := ⟨gq, j * 4 + 3, none⟩) hql (by simp)).trans q3
          obtain ⟨n, hn⟩ : ∃ n, l[j] = n := ⟨_, rfl⟩
          rw [hn] at hcv k1
          obtain ⟨zs, hzs⟩ : ∃ zs, (⟨(Lib.decDigits (1 + j)).toArray⟩ : ByteArray) = zs := ⟨_, rfl⟩
          have HFG : Hid (∀ W, Calls Tryz.prog 27 #[.int .i64 ((j : Int) + 1)] W fun e w' => e = .returned (.string zs) ∧ w' = W) := fun W => by
            have h1 := figures_small (1 + j) (by omega) W
            rw [hzs, show ((1 + j : Nat) : Int) = (j : Int) + 1 by omega] at h1
            exact h1.mono fun e w' ⟨h2, h3⟩ => ⟨h2, h3.symm⟩
          have hz2 : zs.size ≤ 2 := by rw [← hzs]; exact dec_size (1 + j) (by omega)
          unfold numName at k0
          rw [hzs] at k0
          rw [numbered_length] at hqc
          clear hc5' q0 q1 q2 q3 hn hzs
          go_wp2
          refine wp_gen (fun V => Hid (Blk V wr.heap.size 31 [.string ((⟨#[35]⟩ : ByteArray) ++ zs), .string n, .string es, .slice none 0 0]) ∧ Hid (Ch [] wr V)) ⟨Blk.new wr 31 [.string ((⟨#[35]⟩ : ByteArray) ++ zs), .string n, .string es, .slice none 0 0], (Ch.refl [] wr).alloc _⟩ ?_
          rintro V ⟨HY, HCV⟩
          have hcy := HY.out.cells
          have hcn := (HCV.out.cell (p := ⟨b, off + j, none⟩) (Nat.lt_of_lt_of_le hbw HC.out.size) (by simp)).trans hcv
          have e1 : IntKind.i64.wrap ((j : Int) + 1) = (j : Int) + 1 := IntWalk.i64_in _ (by omega)
          have e2 : 0 ≤ (j : Int) + 1 := by omega
          have HC6 : Hid (Ch [] w5 V) := HC.out.trans HCV.out (by simp)
          clear hcv k0 k1 k2 k3
          go_quiet ((go_at_call 27; exact Calls.quiet_of_same (HFG.out _)))
          clear e1
          go_wp2
          go_roundg (l.length + 1 - (j + 1))
          case measure => omega
          case rel => exact ⟨j + 1, by omega, rfl, by go_num, HC6.out.drewN _⟩
        · obtain rfl : j = l.length := by omega
          go_wp2
          go_ret
          exact ⟨rfl, HW5.out.trans ⟨[], HC.out, by simp⟩⟩
end Go.Proofs.YtfnncdngfggcjaaGreatDoor
