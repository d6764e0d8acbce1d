/- Contracts of ZZEnds, ends and Key.String at a value that asks for one other key. -/
import Derived.Test.YtfnncdngfggcjaaGreatDoorSd1
import Derived.LaidEqlPtr
namespace Go.Proofs.YtfnncdngfggcjaaGreatDoor
open Go.RowKit

set_option maxRecDepth 100000 in
set_option maxHeartbeats 1000000 in
theorem zzEnds_plainG (bud d : Int) (hb1 : 1 ≤ bud) (hb2 : bud ≤ 2000) (hd1 : 0 ≤ d) (hd2 : d ≤ 20) (kb sb bb : Nat) (com kname v : ByteArray) (auto shd : Bool) (shv : Value) (w : World) (hk : Blk w kb 107 (keyCells sb com kname v auto shd shv)) (hb : Blk w bb 3 [.int .i64 bud]) (hv : v.size ≤ 4096) (hno : Hid (NoPct v)) :
    Calls Tryz.prog 75 #[.pointer (some ⟨kb, 0, none⟩), .pointer (some ⟨bb, 0, none⟩), .int .i64 d] w fun e w' => e = .returned (.tuple #[.string v, .bool true]) ∧ Hid (Blk w' bb 3 [.int .i64 (bud - 1)]) ∧ Hid (Ch [bb] w w') := by
  have hc := hk.cells
  simp only [keyCells] at hc
  have hcb := hb.cells
  have hfb := hb.frees
  have HB := Lib.hid hb
  have hv1 : decide ((16384 : Int) < (v.size : Int)) = false := decide_eq_false (by omega)
  have hv2 : ¬ ((16384 : Int) < (v.size : Int)) := by omega
  have hv3 : (v.size : Int) ≤ 16384 := by omega
  have hn1 : ¬ (bud - 1 < 0) := by omega
  have hn2 : ¬ (d < 0) := by omega
  clear hk hb
  go_enter Tryz.func75, Tryz.ntmps75
  go_wp2
  refine wp_loop_rounds 1 ?_
  rw [rounds_succ]
  go_wp2_with (go_at_call 99; refine (varPattern_none v _ (by omega) hno).mono ?_; rintro e w' ⟨rfl, rfl⟩)
  refine bodyPost_ret (results_tmp2 rfl _ _ _) rfl ?_
  exact ⟨rfl, HB.out.set 0 _, (Ch.refl [bb] w).set (.inl (by simp)) _⟩

theorem info107 : (Tryz.prog.info? 107).map (·.size) = some 9 := by kernel_rfl
theorem ptr_cmp {W : World} {a b : Nat} {ca cb : List Value} (ha : Blk W a 107 ca) (hb : Blk W b 107 cb) (hne : a ≠ b) :
    (binOp .eql 70 (.pointer (some ⟨a, 0, none⟩)) (.pointer (some ⟨b, 0, none⟩))).run Tryz.prog W = .ok (.bool false) W := by
  obtain ⟨j, hj, hz⟩ := Option.map_eq_some_iff.1 info107
  exact run_eql_ptr_other W (a := ⟨a, 0, none⟩) (b := ⟨b, 0, none⟩) Tryz.underlying70 hj (by omega) (fun e => hne (congrArg Addr.block e)) ha hb
/-- A key whose value asks for another one, and where that one stands. -/
structure AskIn (B : Nat) (own : Nat → Nat) (wa : World) (fb : Nat) (sh : Bool) (σ : List SecA) (dsv slv siv : Value) (mb : Nat) (i : Nat) (s : SecA) (j : Nat) (k : KeyA) (pre name post want : ByteArray) : Prop where
  file : FileOK B own wa fb sh σ dsv slv siv mb
  hi : σ[i]? = some s
  hj : s.keys[j]? = some k
  val : k.val = valT pre name post
  sub : SubIn pre name post
  wno : NoPct want
  wsz : want.size ≤ 100
  dot : ∀ j, j < s.name.size → bt s.name j ≠ 46
  ssz : s.name.size ≤ 4096
theorem nopct_res {pre name post want : ByteArray} (h : SubIn pre name post) (hw : NoPct want) (hs : want.size ≤ 100) : NoPct (resT pre want post) ∧ (resT pre want post).size ≤ 400 := by
  have hsz : (resT pre want post).size = pre.size + want.size + post.size := by unfold resT; rw [ByteArray.size_append, ByteArray.size_append]
  refine ⟨fun i hi e => ?_, by have := h.lp; have := h.lq; omega⟩
  have hb : (resT pre want post).data.toList = pre.data.toList ++ want.data.toList ++ post.data.toList := by unfold resT; rw [app_list, app_list]
  have hl : i < (resT pre want post).data.toList.length := by rw [toList_length]; exact hi
  have hm := List.getElem_mem hl
  have hbt := bt_at (List.getElem?_eq_getElem hl)
  rw [e] at hbt
  have h37 : (resT pre want post).data.toList[i] = 37 := UInt8.toNat_inj.1 (by show _ = 37; omega)
  rw [h37, hb] at hm
  have key : ∀ x : ByteArray, (∀ i, i < x.size → bt x i ≠ 37) → (37 : UInt8) ∉ x.data.toList := fun x hx hmem => by
    obtain ⟨n, hn⟩ := List.getElem?_of_mem hmem
    have hnl : n < x.size := by have := (List.getElem?_eq_some_iff.1 hn).1; rwa [toList_length] at this
    exact hx n hnl (bt_at hn)
  rcases List.mem_append.1 hm with hm | hm
  · rcases List.mem_append.1 hm with hm | hm
    · exact key pre h.fpre hm
    · exact key want hw hm
  · exact key post h.fpost hm

section
variable {B : Nat} {own : Nat → Nat} {wa : World} {fb : Nat} {sh : Bool} {σ : List SecA} {dsv slv siv : Value} {mb i : Nat} {s : SecA} {j : Nat} {k : KeyA} {pre name post want : ByteArray}

set_option maxRecDepth 100000 in
set_option maxHeartbeats 4000000 in
theorem zzEnds_here (h : AskIn B own wa fb sh σ dsv slv siv mb i s j k pre name post want) {j2 : Nat} {k2 : KeyA} (hj2 : s.keys[j2]? = some k2) (hn2 : k2.name = name) (hv2 : k2.val = want) (hne : k.kb ≠ k2.kb) (bb : Nat) (hbb : wa.heap.size ≤ bb) (w : World) (hw : Ch [] wa w) (hb : Blk w bb 3 [.int .i64 2000]) :
    Calls Tryz.prog 75 #[.pointer (some ⟨k.kb, 0, none⟩), .pointer (some ⟨bb, 0, none⟩), .int .i64 20] w fun e w' => e = .returned (.tuple #[.string (resT pre want post), .bool true]) ∧ Hid (Ch [] wa w') := by
  have hsec := h.file.secs i s h.hi
  have hkey := (hsec.keys k (List.mem_of_getElem? h.hj)).key
  have hkey2 := (hsec.keys k2 (List.mem_of_getElem? hj2)).key
  rw [h.val] at hkey
  rw [hv2] at hkey2
  have HK := Lib.hid hkey
  have HK2 := Lib.hid hkey2
  have HB := Lib.hid hb
  have HW := Lib.hid hw
  have H46 : Hid (∀ W, Ch [] wa W → Calls Tryz.prog 46 #[.pointer (some ⟨s.sb, 0, none⟩), .string ((vrT name).extract 2 ((vrT name).size - 2))] W fun e w' => e = .returned (.tuple #[.pointer (some ⟨k2.kb, 0, none⟩), .nilIface]) ∧ W = w') := fun W hW => by
    rw [vrT_name, ← hn2]; exact getKey_here W (h.file.nil hW) h.hi hj2
  have HS := Lib.hid h.sub
  have HVP := Lib.hid (fun W => varPattern_at pre name post W h.sub)
  have HRA := Lib.hid (fun W => replaceAll_at pre name post want W h.sub h.wsz)
  obtain ⟨hn1, hn2'⟩ := nopct_res h.sub h.wno h.wsz
  have HNR := Lib.hid hn1
  have HNW := Lib.hid h.wno
  have hws := h.wsz
  have hvs : (valT pre name post).size ≤ 400 := by rw [valT_size]; have := h.sub.lp; have := h.sub.ln; have := h.sub.lq; omega
  have hvr1 : 5 ≤ (vrT name).size := by rw [vrT_size]; have := h.sub.npos; omega
  have hvr2 : (vrT name).size ≤ 200 := by rw [vrT_size]; have := h.sub.ln; omega
  obtain ⟨vr, hvr⟩ : ∃ vr, vrT name = vr := ⟨_, rfl⟩
  obtain ⟨val, hval⟩ : ∃ val, valT pre name post = val := ⟨_, rfl⟩
  obtain ⟨res, hres⟩ : ∃ res, resT pre want post = res := ⟨_, rfl⟩
  rw [hvr] at H46 HVP HRA hvr1 hvr2
  rw [hval] at HK HVP HRA hvs
  rw [hres] at HRA HNR hn2' ⊢
  have hkl := hkey.lt
  have hbk : ¬ k.kb = bb := by omega
  have hck := (HK.out.ch hw (by simp)).cells
  have hcb := hb.cells
  have hfb := hb.frees
  have hck1 := (Blk.setCell (a := ⟨bb, 0, none⟩) (HK.out.ch hw (by simp)) hbk (.int .i64 1999)).cells
  simp only [keyCells] at hck hck1
  have HC1 : Hid (Ch [] wa (w.setCell ⟨bb, 0, none⟩ (.int .i64 1999))) := hw.set (.inr hbb) _
  have HB1 : Hid (Blk (w.setCell ⟨bb, 0, none⟩ (.int .i64 1999)) bb 3 [.int .i64 1999]) := hb.set 0 _
  have HKW2 := Lib.hid (HK2.out.ch HC1.out (by simp))
  have hcmp := ptr_cmp (HK.out.ch HC1.out (by simp)) HKW2.out hne
  have t1 : ¬ ((16384 : Int) < (val.size : Int)) := by omega
  have t2 : ¬ ((16384 : Int) < (res.size : Int)) := by omega
  have t3 : ((vr.size : Int) == 0) = false := beq_eq_false_iff_ne.2 (by omega)
  clear h hkey hkey2 hv2 hn2 hw hb hn1 hvr hval hres hne hj2
  go_enter Tryz.func75, Tryz.ntmps75
  go_wp2
  refine wp_loop_rounds 2 ?_
  rw [rounds_succ]
  go_wp2_with (first
    | (go_at_call 99; refine (HVP.out _).mono ?_; rintro e w' ⟨rfl, rfl⟩)
    | (go_at_call 46; refine (H46.out _ HC1.out).mono ?_; rintro e w' ⟨rfl, rfl⟩)
    | (go_at_call 75; refine (zzEnds_plainG 1999 19 (by omega) (by omega) (by omega) (by omega) k2.kb s.sb bb es k2.name want k2.auto false k2.shv _ HKW2.out HB1.out (by omega) HNW).mono ?_
       rintro e w3 ⟨rfl, HB3, HC3⟩
       have HC13 : Hid (Ch [] wa w3) := HC1.out.trans HC3.out (fun x hx => by rw [List.mem_singleton] at hx; subst hx; exact .inr hbb)
       have hcb3 := HB3.out.cells
       have hfb3 := HB3.out.frees)
    | (go_at_call 100; refine (HRA.out _).mono ?_; rintro e w' ⟨rfl, rfl⟩))
  rw [rounds_succ]
  go_wp2_with (go_at_call 99; refine (varPattern_none res _ (by omega) HNR).mono ?_; rintro e w' ⟨rfl, rfl⟩)
  refine bodyPost_ret (results_tmp2 rfl _ _ _) rfl ?_
  exact ⟨rfl, HC13.out.set (.inr hbb) _⟩

set_option maxRecDepth 100000 in
set_option maxHeartbeats 4000000 in
theorem zzEnds_dflt (h : AskIn B own wa fb sh σ dsv slv siv mb i s j k pre name post want) (hno : name ∉ s.keys.map (·.name)) {i0 : Nat} {s0 : SecA} (hi0 : σ[i0]? = some s0) (hd0 : s0.name = ⟨#[68, 69, 70, 65, 85, 76, 84]⟩) {j2 : Nat} {k2 : KeyA} (hj2 : s0.keys[j2]? = some k2) (hn2 : k2.name = name) (hv2 : k2.val = want)
    (bb : Nat) (hbb : wa.heap.size ≤ bb) (w : World) (hw : Ch [] wa w) (hb : Blk w bb 3 [.int .i64 2000]) :
    Calls Tryz.prog 75 #[.pointer (some ⟨k.kb, 0, none⟩), .pointer (some ⟨bb, 0, none⟩), .int .i64 20] w fun e w' => e = .returned (.tuple #[.string (resT pre want post), .bool true]) ∧ Hid (Ch [] wa w') := by
  have hsec := h.file.secs i s h.hi
  have hkey := (hsec.keys k (List.mem_of_getElem? h.hj)).key
  have hkey2 := ((h.file.secs i0 s0 hi0).keys k2 (List.mem_of_getElem? hj2)).key
  rw [h.val] at hkey
  rw [hv2] at hkey2
  have HK := Lib.hid hkey
  have HK2 := Lib.hid hkey2
  have HSB := Lib.hid hsec.sec
  have H46 : Hid (∀ W, Ch [] wa W → Calls Tryz.prog 46 #[.pointer (some ⟨s.sb, 0, none⟩), .string ((vrT name).extract 2 ((vrT name).size - 2))] W fun e w' => e = .returned (.tuple #[.pointer none, .iface 138 (.pointer (some ⟨W.heap.size, 0, none⟩))]) ∧ Hid (Ch [] W w')) := fun W hW => by
    rw [vrT_name]; exact getKey_none W name (h.file.nil hW) h.hi hno h.ssz h.dot
  have H68 : Hid (∀ W, Ch [] wa W → Calls Tryz.prog 68 #[.pointer (some ⟨fb, 0, none⟩), .string es] W fun e w' => e = .returned (.pointer (some ⟨s0.sb, 0, none⟩)) ∧ W = w') := fun W hW =>
    section_of W es (getSection_dflt W (h.file.nil hW) hi0 hd0)
  have H46b : Hid (∀ W, Ch [] wa W → Calls Tryz.prog 46 #[.pointer (some ⟨s0.sb, 0, none⟩), .string ((vrT name).extract 2 ((vrT name).size - 2))] W fun e w' => e = .returned (.tuple #[.pointer (some ⟨k2.kb, 0, none⟩), .nilIface]) ∧ W = w') := fun W hW => by
    rw [vrT_name, ← hn2]; exact getKey_here W (h.file.nil hW) hi0 hj2
  have HVP := Lib.hid (fun W => varPattern_at pre name post W h.sub)
  have HRA := Lib.hid (fun W => replaceAll_at pre name post want W h.sub h.wsz)
  obtain ⟨hn1, hn2'⟩ := nopct_res h.sub h.wno h.wsz
  have HNR := Lib.hid hn1
  have HNW := Lib.hid h.wno
  have hws := h.wsz
  have hvs : (valT pre name post).size ≤ 400 := by rw [valT_size]; have := h.sub.lp; have := h.sub.ln; have := h.sub.lq; omega
  have hvr1 : 5 ≤ (vrT name).size := by rw [vrT_size]; have := h.sub.npos; omega
  have hvr2 : (vrT name).size ≤ 200 := by rw [vrT_size]; have := h.sub.ln; omega
  obtain ⟨vr, hvr⟩ : ∃ vr, vrT name = vr := ⟨_, rfl⟩
  obtain ⟨val, hval⟩ : ∃ val, valT pre name post = val := ⟨_, rfl⟩
  obtain ⟨res, hres⟩ : ∃ res, resT pre want post = res := ⟨_, rfl⟩
  rw [hvr] at H46 H46b HVP HRA hvr1 hvr2
  rw [hval] at HK HVP HRA hvs
  rw [hres] at HRA HNR hn2' ⊢
  have hkl := hkey.lt
  have hbk : ¬ k.kb = bb := by omega
  have hck := (HK.out.ch hw (by simp)).cells
  have hcb := hb.cells
  have hfb := hb.frees
  have hck1 := (Blk.setCell (a := ⟨bb, 0, none⟩) (HK.out.ch hw (by simp)) hbk (.int .i64 1999)).cells
  simp only [keyCells] at hck hck1
  have HC1 : Hid (Ch [] wa (w.setCell ⟨bb, 0, none⟩ (.int .i64 1999))) := hw.set (.inr hbb) _
  have HB1 : Hid (Blk (w.setCell ⟨bb, 0, none⟩ (.int .i64 1999)) bb 3 [.int .i64 1999]) := hb.set 0 _
  have t1 : ¬ ((16384 : Int) < (val.size : Int)) := by omega
  have t2 : ¬ ((16384 : Int) < (res.size : Int)) := by omega
  have t3 : ((vr.size : Int) == 0) = false := beq_eq_false_iff_ne.2 (by omega)
  clear h hkey hkey2 hv2 hn2 hw hb hn1 hvr hval hres hj2 hi0 hd0 hno hsec
  go_enter Tryz.func75, Tryz.ntmps75
  go_wp2
  refine wp_loop_rounds 2 ?_
  rw [rounds_succ]
  go_wp2_with (first
    | (go_at_call 99; refine (HVP.out _).mono ?_; rintro e w' ⟨rfl, rfl⟩)
    | (go_at_call 46; (with_reducible refine (H46.out _ HC1.out).mono ?_)
       rintro e w2 ⟨rfl, HC2⟩
       have HC12 : Hid (Ch [] wa w2) := HC1.out.trans HC2.out (by simp)
       have HB2 := Lib.hid (HB1.out.ch HC2.out (by simp))
       have hck2 := (HK.out.ch HC12.out (by simp)).cells
       have hcs2 := (HSB.out.ch HC12.out (by simp)).cells
       simp only [keyCells] at hck2
       simp only [secCells] at hcs2
       have HKW2 := Lib.hid (HK2.out.ch HC12.out (by simp))
       clear hck hck1 hcb hfb)
    | (go_at_call 68; (with_reducible refine (H68.out _ HC12.out).mono ?_); rintro e w' ⟨rfl, rfl⟩)
    | (go_at_call 46; (with_reducible refine (H46b.out _ HC12.out).mono ?_); rintro e w' ⟨rfl, rfl⟩)
    | (go_at_call 75; refine (zzEnds_plainG 1999 19 (by omega) (by omega) (by omega) (by omega) k2.kb s0.sb bb es k2.name want k2.auto false k2.shv _ HKW2.out HB2.out (by omega) HNW).mono ?_
       rintro e w3 ⟨rfl, HB3, HC3⟩
       have HC13 : Hid (Ch [] wa w3) := HC12.out.trans HC3.out (fun x hx => by rw [List.mem_singleton] at hx; subst hx; exact .inr hbb)
       have hcb3 := HB3.out.cells
       have hfb3 := HB3.out.frees
       clear hck2 hcs2)
    | (go_at_call 100; refine (HRA.out _).mono ?_; rintro e w' ⟨rfl, rfl⟩))
  rw [rounds_succ]
  go_wp2_with (go_at_call 99; refine (varPattern_none res _ (by omega) HNR).mono ?_; rintro e w' ⟨rfl, rfl⟩)
  refine bodyPost_ret (results_tmp2 rfl _ _ _) rfl ?_
  exact ⟨rfl, HC13.out.set (.inr hbb) _⟩

set_option maxRecDepth 100000 in
set_option maxHeartbeats 4000000 in
theorem transform_here (h : AskIn B own wa fb sh σ dsv slv siv mb i s j k pre name post want) {j2 : Nat} {k2 : KeyA} (hj2 : s.keys[j2]? = some k2) (hn2 : k2.name = name) (hv2 : k2.val = want) (hne : k.kb ≠ k2.kb) (w : World) (hw : Ch [] wa w) :
    Calls Tryz.prog 76 #[.pointer (some ⟨k.kb, 0, none⟩), .string (valT pre name post)] w fun e w' => e = .returned (.string (resT pre want post)) ∧ Hid (Ch [] wa w') := by
  have hsec := h.file.secs i s h.hi
  have hkey := (hsec.keys k (List.mem_of_getElem? h.hj)).key
  have hkey2 := (hsec.keys k2 (List.mem_of_getElem? hj2)).key
  rw [hv2] at hkey2
  have H46 : Hid (∀ W, Ch [] wa W → Calls Tryz.prog 46 #[.pointer (some ⟨s.sb, 0, none⟩), .string ((vrT name).extract 2 ((vrT name).size - 2))] W fun e w' => e = .returned (.tuple #[.pointer (some ⟨k2.kb, 0, none⟩), .nilIface]) ∧ W = w') := fun W hW => by
    rw [vrT_name, ← hn2]; exact getKey_here W (h.file.nil hW) h.hi hj2
  have H56 : Hid (∀ W, Ch [] wa W → Calls Tryz.prog 56 #[.pointer (some ⟨k2.kb, 0, none⟩)] W fun e w' => e = .returned (.string want) ∧ W = w') := fun W hW =>
    keyString_plain k2.kb s.sb fb es k2.name want es s.name k2.auto false sh k2.shv s.klv dsv slv siv s.km s.kh mb W (hkey2.ch hW (by simp)) (hsec.sec.ch hW (by simp)) (h.file.file.ch hW (by simp)) (by have := h.wsz; omega) h.wno
  have HVP := Lib.hid (fun W => varPattern_at pre name post W h.sub)
  have HRA := Lib.hid (fun W => replaceAll_at pre name post want W h.sub h.wsz)
  have HZI := Lib.hid (fun W => zzIndex_at pre name post W h.sub)
  obtain ⟨hn1, hn2'⟩ := nopct_res h.sub h.wno h.wsz
  have HNR := Lib.hid hn1
  have hvs : (valT pre name post).size ≤ 400 := by rw [valT_size]; have := h.sub.lp; have := h.sub.ln; have := h.sub.lq; omega
  have hvr1 : 5 ≤ (vrT name).size := by rw [vrT_size]; have := h.sub.npos; omega
  have hvr2 : (vrT name).size ≤ 200 := by rw [vrT_size]; have := h.sub.ln; omega
  have hcf := (h.file.file.ch hw (by simp)).cells
  have hcs := (hsec.sec.ch hw (by simp)).cells
  have hck := (hkey.ch hw (by simp)).cells
  simp only [fileCells] at hcf
  simp only [secCells] at hcs
  simp only [keyCells] at hck
  have hcmp := ptr_cmp (hkey.ch hw (by simp)) (hkey2.ch hw (by simp)) hne
  have hbin : ∀ W, (binOp .neq 100 .nilFunc .nilFunc).run Tryz.prog W = .ok (.bool false) W := fun _ => by kernel_rfl
  obtain ⟨vr, hvr⟩ : ∃ vr, vrT name = vr := ⟨_, rfl⟩
  obtain ⟨val, hval⟩ : ∃ val, valT pre name post = val := ⟨_, rfl⟩
  obtain ⟨res, hres⟩ : ∃ res, resT pre want post = res := ⟨_, rfl⟩
  rw [hvr] at H46 HVP HRA hvr1 hvr2
  rw [hval] at HVP HRA HZI hvs ⊢
  rw [hres] at HRA HNR hn2' ⊢
  have t3 : ((vr.size : Int) == 0) = false := beq_eq_false_iff_ne.2 (by omega)
  have HW := Lib.hid hw
  clear h hkey hkey2 hv2 hn2 hw hn1 hvr hval hres hj2 hsec hne
  go_enter Tryz.func76, Tryz.ntmps76
  go_wp2_with (go_at_call 101; refine (HZI.out _).mono ?_; rintro e w' ⟨rfl, rfl⟩)
  refine wp_loop_rounds 2 ?_
  rw [rounds_succ]
  go_wp2_with (first
    | (go_at_call 99; refine (HVP.out _).mono ?_; rintro e w' ⟨rfl, rfl⟩)
    | (go_at_call 46; refine (H46.out _ HW.out).mono ?_; rintro e w' ⟨rfl, rfl⟩)
    | (go_at_call 56; refine (H56.out _ HW.out).mono ?_; rintro e w' ⟨rfl, rfl⟩)
    | (go_at_call 100; refine (HRA.out _).mono ?_; rintro e w' ⟨rfl, rfl⟩))
  rw [rounds_succ]
  go_wp2_with (go_at_call 99; refine (varPattern_none res _ (by omega) HNR).mono ?_; rintro e w' ⟨rfl, rfl⟩)
  go_ret
  exact ⟨rfl, HW⟩

set_option maxRecDepth 100000 in
set_option maxHeartbeats 4000000 in
theorem transform_dflt (h : AskIn B own wa fb sh σ dsv slv siv mb i s j k pre name post want) (hno : name ∉ s.keys.map (·.name)) {i0 : Nat} {s0 : SecA} (hi0 : σ[i0]? = some s0) (hd0 : s0.name = ⟨#[68, 69, 70, 65, 85, 76, 84]⟩) {j2 : Nat} {k2 : KeyA} (hj2 : s0.keys[j2]? = some k2) (hn2 : k2.name = name) (hv2 : k2.val = want) (w : World) (hw : Ch [] wa w) :
    Calls Tryz.prog 76 #[.pointer (some ⟨k.kb, 0, none⟩), .string (valT pre name post)] w fun e w' => e = .returned (.string (resT pre want post)) ∧ Hid (Ch [] wa w') := by
  have hsec := h.file.secs i s h.hi
  have hsec0 := h.file.secs i0 s0 hi0
  have hkey := (hsec.keys k (List.mem_of_getElem? h.hj)).key
  have hkey2 := (hsec0.keys k2 (List.mem_of_getElem? hj2)).key
  rw [hv2] at hkey2
  have HK := Lib.hid hkey
  have HSB := Lib.hid hsec.sec
  have H46 : Hid (∀ W, Ch [] wa W → Calls Tryz.prog 46 #[.pointer (some ⟨s.sb, 0, none⟩), .string ((vrT name).extract 2 ((vrT name).size - 2))] W fun e w' => e = .returned (.tuple #[.pointer none, .iface 138 (.pointer (some ⟨W.heap.size, 0, none⟩))]) ∧ Hid (Ch [] W w')) := fun W hW => by
    rw [vrT_name]; exact getKey_none W name (h.file.nil hW) h.hi hno h.ssz h.dot
  have H68 : Hid (∀ W, Ch [] wa W → Calls Tryz.prog 68 #[.pointer (some ⟨fb, 0, none⟩), .string es] W fun e w' => e = .returned (.pointer (some ⟨s0.sb, 0, none⟩)) ∧ W = w') := fun W hW =>
    section_of W es (getSection_dflt W (h.file.nil hW) hi0 hd0)
  have H46b : Hid (∀ W, Ch [] wa W → Calls Tryz.prog 46 #[.pointer (some ⟨s0.sb, 0, none⟩), .string ((vrT name).extract 2 ((vrT name).size - 2))] W fun e w' => e = .returned (.tuple #[.pointer (some ⟨k2.kb, 0, none⟩), .nilIface]) ∧ W = w') := fun W hW => by
    rw [vrT_name, ← hn2]; exact getKey_here W (h.file.nil hW) hi0 hj2
  have H56 : Hid (∀ W, Ch [] wa W → Calls Tryz.prog 56 #[.pointer (some ⟨k2.kb, 0, none⟩)] W fun e w' => e = .returned (.string want) ∧ W = w') := fun W hW =>
    keyString_plain k2.kb s0.sb fb es k2.name want es s0.name k2.auto false sh k2.shv s0.klv dsv slv siv s0.km s0.kh mb W (hkey2.ch hW (by simp)) (hsec0.sec.ch hW (by simp)) (h.file.file.ch hW (by simp)) (by have := h.wsz; omega) h.wno
  have HVP := Lib.hid (fun W => varPattern_at pre name post W h.sub)
  have HRA := Lib.hid (fun W => replaceAll_at pre name post want W h.sub h.wsz)
  have HZI := Lib.hid (fun W => zzIndex_at pre name post W h.sub)
  obtain ⟨hn1, hn2'⟩ := nopct_res h.sub h.wno h.wsz
  have HNR := Lib.hid hn1
  have hvs : (valT pre name post).size ≤ 400 := by rw [valT_size]; have := h.sub.lp; have := h.sub.ln; have := h.sub.lq; omega
  have hvr1 : 5 ≤ (vrT name).size := by rw [vrT_size]; have := h.sub.npos; omega
  have hvr2 : (vrT name).size ≤ 200 := by rw [vrT_size]; have := h.sub.ln; omega
  have hcf := (h.file.file.ch hw (by simp)).cells
  have hcs := (hsec.sec.ch hw (by simp)).cells
  have hck := (hkey.ch hw (by simp)).cells
  simp only [fileCells] at hcf
  simp only [secCells] at hcs
  simp only [keyCells] at hck
  have hbin : ∀ W, (binOp .neq 100 .nilFunc .nilFunc).run Tryz.prog W = .ok (.bool false) W := fun _ => by kernel_rfl
  obtain ⟨vr, hvr⟩ : ∃ vr, vrT name = vr := ⟨_, rfl⟩
  obtain ⟨val, hval⟩ : ∃ val, valT pre name post = val := ⟨_, rfl⟩
  obtain ⟨res, hres⟩ : ∃ res, resT pre want post = res := ⟨_, rfl⟩
  rw [hvr] at H46 H46b HVP HRA hvr1 hvr2
  rw [hval] at HVP HRA HZI hvs ⊢
  rw [hres] at HRA HNR hn2' ⊢
  have t3 : ((vr.size : Int) == 0) = false := beq_eq_false_iff_ne.2 (by omega)
  have HW := Lib.hid hw
  clear h hkey hkey2 hv2 hn2 hw hn1 hvr hval hres hj2 hsec hsec0 hi0 hd0 hno
  go_enter Tryz.func76, Tryz.ntmps76
  go_wp2_with (go_at_call 101; refine (HZI.out _).mono ?_; rintro e w' ⟨rfl, rfl⟩)
  refine wp_loop_rounds 2 ?_
  rw [rounds_succ]
  go_wp2_with (first
    | (go_at_call 99; refine (HVP.out _).mono ?_; rintro e w' ⟨rfl, rfl⟩)
    | (go_at_call 46; (with_reducible refine (H46.out _ HW.out).mono ?_)
       rintro e w2 ⟨rfl, HC2⟩
       have HC12 : Hid (Ch [] wa w2) := HW.out.trans HC2.out (by simp)
       have hck2 := (HK.out.ch HC12.out (by simp)).cells
       have hcs2 := (HSB.out.ch HC12.out (by simp)).cells
       simp only [keyCells] at hck2
       simp only [secCells] at hcs2
       clear hck hcs hcf)
    | (go_at_call 68; (with_reducible refine (H68.out _ HC12.out).mono ?_); rintro e w' ⟨rfl, rfl⟩)
    | (go_at_call 46; (with_reducible refine (H46b.out _ HC12.out).mono ?_); rintro e w' ⟨rfl, rfl⟩)
    | (go_at_call 56; refine (H56.out _ HC12.out).mono ?_; rintro e w' ⟨rfl, rfl⟩)
    | (go_at_call 100; refine (HRA.out _).mono ?_; rintro e w' ⟨rfl, rfl⟩))
  rw [rounds_succ]
  go_wp2_with (go_at_call 99; refine (varPattern_none res _ (by omega) HNR).mono ?_; rintro e w' ⟨rfl, rfl⟩)
  go_ret
  exact ⟨rfl, HC12⟩
end
end Go.Proofs.YtfnncdngfggcjaaGreatDoor
