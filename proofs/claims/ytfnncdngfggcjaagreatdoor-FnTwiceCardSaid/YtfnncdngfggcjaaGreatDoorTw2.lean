/- The walk of laws.FnTwice. -/
import Derived.Test.YtfnncdngfggcjaaGreatDoorTw1
import Derived.Test.YtfnncdngfggcjaaGreatDoorIn2
namespace Go.Proofs.YtfnncdngfggcjaaGreatDoor
open Go.RowKit

theorem isName_hidT (s : ByteArray) (b : Bool) (h : isNameB s = b) (hs : s.size ≤ 140737488351232) :
    Hid (∀ w, Calls Tryz.prog 20 #[.string s] w fun e w' => e = .returned (.bool b) ∧ Hid (Ch [] w w')) := fun w => by rw [← h]; exact isName_any s w hs
theorem tw_txt (name a b : ByteArray) : (name ++ ⟨#[32, 61, 32]⟩ ++ a ++ ⟨#[10]⟩ ++ name ++ ⟨#[32, 61, 32]⟩ ++ b ++ ⟨#[10]⟩).data.toList = textOf (twLines name a b) := by
  simp [twLines, textOf, Ln.body]
theorem kept_cell {w w' : World} (hk : Kept w.heap.size w w') {b o : Nat} {v : Value} (hb : b < w.heap.size) (h : w.cell? ⟨b, o, none⟩ = some v) : w'.cell? ⟨b, o, none⟩ = some v := by
  obtain ⟨S, hc, hS⟩ := hk
  exact (hc.cell (p := ⟨b, o, none⟩) hb (fun hm => by have := hS b hm; omega)).trans h
theorem tw_two {B : Nat} {ea fa : Addr} {name a b : ByteArray} (h : TwIn name a b) {w w5 : World} (g : Glob w B ea fa) (htab : SpcTab w) (hk : Kept w.heap.size w w5) {txt : ByteArray} (ht : txt.data.toList = textOf (twLines name a b)) :
    Calls Tryz.prog 26 #[.int .i64 2, .string txt] w5 fun e w' => ∃ g gk ck g3 c3 c, e = .returned (.tuple #[.slice (some ⟨g, 0, none⟩) 1 c, .bool true]) ∧ 1 ≤ c ∧ Hid (OneT w' true g gk ck (name, a, [b]) (.slice (some ⟨g3, 0, none⟩) 2 c3)) ∧
      w'.cell? ⟨g3, 0, none⟩ = some (.string a) ∧ w'.cell? ⟨g3, 1, none⟩ = some (.string b) ∧ Hid (Kept w5.heap.size w5 w') := by
  obtain ⟨S, hc, hS⟩ := hk
  have h6 := g.h6
  have hBw := g.hB
  have g5 := g.up.ch hc hS
  have t5 := htab.ch hc (fun hm => by have := hS 0 hm; omega) (by omega)
  refine (tw26 2 true (.inr ⟨rfl, rfl⟩) w.heap.size ea fa name a b h w5 g5 t5 txt ht).mono ?_
  rintro e w' ⟨g', gk, ck, sv, c, rfl, hc', ho, hk⟩
  obtain ⟨a3, c3, rfl, hcl⟩ := Row.sl (show Row w' 9 sv (strs [a, b]) from ho.out.sh)
  obtain ⟨g3, rfl, _, h0⟩ := hcl 0 (.string a) rfl
  obtain ⟨g4, e4, _, h1⟩ := hcl 1 (.string b) rfl
  cases e4
  exact ⟨g', gk, ck, g3, c3, c, rfl, hc', ho, h0, h1, hk⟩

set_option maxRecDepth 100000 in
set_option maxHeartbeats 8000000 in
theorem fnTwice_walk (B : Nat) (ea fa : Addr) (name a b : ByteArray) (w : World) (g : Glob w B ea fa) (htab : SpcTab w) :
    Calls Tryz.prog 10 #[.string name, .string a, .string b] w fun e w' => e = .returned (.bool true) ∧ Hid (Kept B w w') := by
  by_cases z0 : (2147483647 : Int) < (name.size : Int)
  · clear g htab
    go_enter Tryz.func10, Tryz.ntmps10
    go_wp2
    go_ret
    exact ⟨rfl, Kept.refl B w⟩
  by_cases z1 : (2147483647 : Int) < (a.size : Int)
  · clear g htab
    go_enter Tryz.func10, Tryz.ntmps10
    go_wp2
    go_ret
    exact ⟨rfl, Kept.refl B w⟩
  by_cases z2 : (2147483647 : Int) < (b.size : Int)
  · clear g htab
    go_enter Tryz.func10, Tryz.ntmps10
    go_wp2
    go_ret
    exact ⟨rfl, Kept.refl B w⟩
  cases h1 : isNameB name with
  | false =>
    have HN := isName_hidT name false h1 (by omega)
    clear g htab h1
    go_enter Tryz.func10, Tryz.ntmps10
    go_wp2_with (go_at_call 20; refine (HN.out _).mono ?_; rintro e w1 ⟨rfl, HC1⟩)
    go_ret
    exact ⟨rfl, ⟨[], HC1.out, by simp⟩⟩
  | true =>
  have HN := isName_hidT name true h1 (by omega)
  cases h2 : isPlain a with
  | false =>
    have HP := isPlain_hid a false h2 (by omega)
    clear g htab h1 h2
    go_enter Tryz.func10, Tryz.ntmps10
    go_wp2_with (first
      | (go_at_call 20; refine (HN.out _).mono ?_; rintro e w1 ⟨rfl, HC1⟩)
      | (go_at_call 21; refine (HP.out _).mono ?_; rintro e w' ⟨rfl, rfl⟩))
    go_ret
    exact ⟨rfl, ⟨[], HC1.out, by simp⟩⟩
  | true =>
  have HPA := isPlain_hid a true h2 (by omega)
  cases h3 : isPlain b with
  | false =>
    have HP := isPlain_hid b false h3 (by omega)
    clear g htab h1 h2 h3
    go_enter Tryz.func10, Tryz.ntmps10
    go_wp2_with (first
      | (go_at_call 20; refine (HN.out _).mono ?_; rintro e w1 ⟨rfl, HC1⟩)
      | (go_at_call 21; (with_reducible refine (HPA.out _).mono ?_); rintro e w' ⟨rfl, rfl⟩)
      | (go_at_call 21; (with_reducible refine (HP.out _).mono ?_); rintro e w' ⟨rfl, rfl⟩))
    go_ret
    exact ⟨rfl, ⟨[], HC1.out, by simp⟩⟩
  | true =>
  have HPB := isPlain_hid b true h3 (by omega)
  by_cases hab : a = b
  · have hq : (a.toList == b.toList) = true := by rw [hab]; simp
    clear g htab h1 h2 h3 hab
    go_enter Tryz.func10, Tryz.ntmps10
    go_wp2_with (first
      | (go_at_call 20; refine (HN.out _).mono ?_; rintro e w1 ⟨rfl, HC1⟩)
      | (go_at_call 21; (with_reducible refine (HPA.out _).mono ?_); rintro e w' ⟨rfl, rfl⟩)
      | (go_at_call 21; (with_reducible refine (HPB.out _).mono ?_); rintro e w' ⟨rfl, rfl⟩))
    go_ret
    exact ⟨rfl, ⟨[], HC1.out, by simp⟩⟩
  have hq : (a.toList == b.toList) = false := beq_list hab
  have HIN : Hid (TwIn name a b) := ⟨h1, h2, h3, hab⟩
  have s1 := nameB_size h1
  have s2 := plain_size h2
  have s3 := plain_size h3
  have HTX := Lib.hid (tw_txt name a b)
  have HG := Lib.hid g
  have HTAB := Lib.hid htab
  clear g htab h1 h2 h3 hab
  go_enter Tryz.func10, Tryz.ntmps10
  go_wp2_with (first
    | (go_at_call 20; refine (HN.out _).mono ?_; rintro e w1 ⟨rfl, HC1⟩
       have HG1 := Lib.hid (HG.out.ch HC1.out (by simp))
       have HT1 := Lib.hid (HTAB.out.nil HC1.out))
    | (go_at_call 21; (with_reducible refine (HPA.out _).mono ?_); rintro e w' ⟨rfl, rfl⟩)
    | (go_at_call 21; (with_reducible refine (HPB.out _).mono ?_); rintro e w' ⟨rfl, rfl⟩)
    | (go_at_call 26; (with_reducible refine (tw26 0 false (.inl ⟨rfl, rfl⟩) B ea fa name a b HIN.out w1 HG1.out HT1.out _ HTX.out).mono ?_)
       rintro e w5 ⟨g5, gk5, ck5, sv5, c5, rfl, hc5, HO5, HK5⟩)
    | (go_at_call 26; (with_reducible refine (tw_two HIN.out HG1.out HT1.out HK5.out HTX.out).mono ?_)
       rintro e w6 ⟨g6, gk6, ck6, g3, c3, c6, rfl, hc6, HO6, h30, h31, HK6⟩
       have a2 := HO6.out.c2
       have a3 := HO6.out.k3
       have a4 := HO6.out.ck
       have b4 := HO5.out.ck
       have b2 := kept_cell HK6.out HO5.out.gl HO5.out.c2
       have b3 : w6.cell? ⟨gk5, 1, none⟩ = some (.string b) := kept_cell HK6.out HO5.out.kl HO5.out.k1))
  go_ret
  refine ⟨rfl, ?_⟩
  have hBw := HG1.out.hB
  exact (Kept.trans ⟨[], HC1.out, by simp⟩ (HK5.out.down hBw)).trans (HK6.out.down (by obtain ⟨S, hc, _⟩ := HK5.out; exact Nat.le_trans hBw hc.size))
end Go.Proofs.YtfnncdngfggcjaaGreatDoor
