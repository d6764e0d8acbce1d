/- Contract of File.parse at a text of lines. -/
import Derived.Test.YtfnncdngfggcjaaGreatDoorPar4
import Derived.Test.YtfnncdngfggcjaaGreatDoorPa0
namespace Go.Proofs.YtfnncdngfggcjaaGreatDoor
open Go.RowKit

theorem itoa_str (n : Nat) (h : n < 100) : ∃ zs : ByteArray, zs.size ≤ 100 ∧ numName n = ⟨#[35]⟩ ++ zs ∧ ∀ W, Calls Tryz.prog 149 #[.int .i64 n] W fun e w' => e = .returned (.string zs) ∧ w' = W := by
  refine ⟨⟨(Lib.decDigits n).toArray⟩, ?_, rfl, fun W => Tryz.strconv_Itoa_small n h W⟩
  show (Lib.decDigits n).toArray.size ≤ 100
  rw [List.size_toArray]
  by_cases h1 : n < 10
  · rw [Lib.decDigits_one h1]; simp
  · rw [Lib.decDigits_two h1 h]; simp

set_option maxRecDepth 100000 in
set_option maxHeartbeats 16000000 in
theorem parse_text (fb mb br B db L : Nat) (own : Nat → Nat) (sh t : Bool) (dsv : Value) (cap : Nat) (ea fa : Addr) (w : World) (lines : List Ln) (b0 b1 : UInt8) (tl : List UInt8) (htx : textOf lines = b0 :: b1 :: tl) (hb0 : b0.toNat < 128)
    (hLt : L = (textOf lines).length) (hL : L ≤ 4096) (hF : FileOK B own w fb sh [] dsv (.slice none 0 0) (.slice none 0 0) mb)
    (hb : Blk w br 296 [.slice (some ⟨db, 0, none⟩) L cap, .int .i64 0, .int .i64 (-1)]) (hd : ∀ j c, (textOf lines)[j]? = some c → w.cell? ⟨db, j, none⟩ = some (.int .u8 c.toNat)) (hcap : L ≤ cap) (hne : db ≠ br) (hdl : db < w.heap.size) (hBbr : B ≤ br)
    (g : Glob w B ea fa) (htab : t = true → SpcTab w) (hok : okRun sh t ⟨[(dflt, [])], 0, 1⟩ lines) :
    Calls Tryz.prog 125 #[ptr fb, .iface 179 (.agg #[.iface 293 (.pointer (some ⟨br, 0, none⟩))])] w fun e w' => e = .returned .nilIface ∧ Hid (ParsedR B sh fb mb dsv (runP sh ⟨[(dflt, [])], 0, 1⟩ lines).v w w') := by
  have HFO := Lib.hid hF
  have HBR := Lib.hid hb
  have HG := Lib.hid g
  have HD := Lib.hid hd
  have HTX := Lib.hid htx
  have HLT := Lib.hid hLt
  have HOK := Lib.hid hok
  have HTAB := Lib.hid htab
  have hc := hF.file.cells
  have hf := hF.file.frees
  simp only [fileCells] at hc
  have hfl := hF.file.lt
  have hBr : br < w.heap.size := hb.lt
  clear hF hb g hd htx hLt hok htab
  unfold ptr
  go_enter Tryz.func125, Tryz.ntmps125
  go_wp2_with fail
  go_region_held3 (fun w' => ∀ o, w'.cell? ⟨fb, o, none⟩ = [Value.bool false, .bool false, .bool false, .bool false, .bool false, .bool false, .bool false, .bool false, .bool false, .bool sh, .bool false, .bool false, .bool false, .bool false, .bool false,
   .slice none 0 0, .string ⟨#[61, 58]⟩, .string ⟨#[61]⟩, .string ⟨#[46]⟩, .bool false, .int .i64 0, .bool false, .bool false,
   dsv, .bool true, .slice none 0 0, .slice none 0 0, .map (some mb), .nilFunc][o]?)
    (first
      | exact HFO.out.file.drew.cells
      | exact (HFO.out.file.drew.ch hch (by simp)).cells)
    ((go_at_call 131; refine (newParser_any br _).mono ?_; rintro e W ⟨pb, rb, bb, cb, rfl, h1, h2, h3, h4, hpb, hrb, hbb, hcb, hch⟩))
  apply ‹∀ (a : Act) (w : World), Code.wp _ _ _ a w → _›
  have HW : Hid (Ch [] w W) := (Ch.refl [] w).drew.trans hch (by simp)
  have HF1 := Lib.hid (HFO.out.nil HW.out)
  have HBR1 := Lib.hid (HBR.out.ch HW.out (by simp))
  have HG1 := Lib.hid (HG.out.ch HW.out (by simp))
  have HPB1 := Lib.hid hpb
  have HRB1 := Lib.hid hrb
  have HBB1 := Lib.hid hbb
  have HCB1 : Hid (Blk W cb 229 bufCells) := hcb
  have hBsz := HG.out.hB
  simp only [World.size_drew] at h1 h2 h3 h4
  have HD1 : Hid (∀ j c, (textOf lines)[j]? = some c → W.cell? ⟨db, j, none⟩ = some (.int .u8 c.toNat)) := fun j c hj => (HW.out.cell (p := ⟨db, j, none⟩) hdl (by simp)).trans (HD.out j c hj)
  have hdl1 : db < W.heap.size := Nat.lt_of_lt_of_le hdl HW.out.size
  have hdr1 : db ≠ rb := by omega
  have hBrb : B ≤ rb := by omega
  have hBbb : B ≤ bb := by omega
  have hBpb : B ≤ pb := by omega
  have hBcb : B ≤ cb := by omega
  clear hpb hrb hbb hcb hch hc hf
  go_wp2_with (first
    | (go_at_call 132; refine (bom_data pb cb rb bb br db L (textOf lines) b0 b1 tl HTX.out hb0 HLT.out cap (-1) 1 zeros4096 _ hL HBR1.out HBB1.out (by decide) HD1.out hcap hne hdl1 HRB1.out hdr1 HPB1.out).mono ?_
       rintro e W2 ⟨rfl, hrb2, hbr2, hbb2, hch2⟩
       have HAL : Hid (Alien W [rb, br, bb]) := fun b hb => by
         simp only [List.mem_cons, List.not_mem_nil, or_false] at hb
         rcases hb with rfl | rfl | rfl
         · exact ⟨_, _, HRB1.out, by decide⟩
         · exact ⟨_, _, HBR1.out, by decide⟩
         · exact ⟨_, _, HBB1.out, by decide⟩
       have HF2 := Lib.hid (HF1.out.alien hch2 HAL.out)
       have hg3 : ∀ x, x ∈ [rb, br, bb] → B ≤ x := fun x hx => by
         simp only [List.mem_cons, List.not_mem_nil, or_false] at hx
         rcases hx with rfl | rfl | rfl <;> assumption
       have HR2 : Hid (RdrOK pb rb bb br cb B L (textOf lines) (some ⟨db, 0, none⟩) cap (-1) ea fa t W2 1 0 (-1) (-1)) :=
         { par := HPB1.out.ch hch2 (by simp [HPB1.out.ne HRB1.out, HPB1.out.ne HBR1.out, HPB1.out.ne HBB1.out]), rdr := hrb2, buf := ⟨_, hbb2, fun i c hi => splice_get hi⟩,
           com := HCB1.out.ch hch2 (by simp [HCB1.out.ne HRB1.out, HCB1.out.ne HBR1.out, HCB1.out.ne HBB1.out]), src := hbr2, glob := HG1.out.ch hch2 hg3,
           tab := fun ht => ((HTAB.out ht).nil HW.out).ch hch2 (fun hm => by have h6 := HG.out.h6; have := hg3 0 hm; omega) (by have h6 := HG.out.h6; omega), gpb := hBpb, grb := hBrb, gbb := hBbb, gcb := hBcb }
       have HK2 : Hid (Kept B w W2) := Kept.trans ⟨[], HW.out, by simp⟩ ⟨_, hch2, hg3⟩
       have hc2 := HF2.out.file.cells
       simp only [fileCells] at hc2
       clear hrb2 hbr2 hbb2 hch2 HAL hg3)
    | (go_at_call 78; refine (newSection_file B own fb mb sh [] dsv _ _ dflt _ HF2.out (by decide) (by simp)).mono ?_
       rintro e W3 ⟨own3, σ3, slv3, siv3, cur3, s3, rfl, hF3, hcur3, hview3, hcur0, S3, hch3, hnat3⟩
       have HF3 := Lib.hid hF3
       have HR3 := Lib.hid (HR2.out.native hch3 hnat3)
       have HK3 : Hid (Kept B w W3) := HK2.out.trans ⟨S3, hch3, hnat3.ge⟩
       have HV3 : Hid (viewOf σ3 = [(dflt, [])]) := hview3
       have HC3 : Hid (σ3[0]? = some s3) := by rw [← (show cur3 = 0 from hcur0)]; exact hcur3
       clear hF3 hcur3 hview3 hcur0 hch3 hnat3 hc2
       have hc3 := HF3.out.file.cells
       simp only [fileCells] at hc3))
  go_loopg [7, 12] (lines.length + 2) (fun gf s7 s12 wx => s12 = .bool false ∧ ((∃ rest own σ slv siv s p r lb ls, gf = rest.length + 2 ∧ s7 = ptr s.sb ∧ Hid (LAt fb pb rb bb br cb mb B L sh t dsv (textOf lines) (some ⟨db, 0, none⟩) cap (-1) ea fa (runP sh ⟨[(dflt, [])], 0, 1⟩ lines).v w wx rest own σ slv siv s p r lb ls)) ∨
    (gf = 1 ∧ ∃ own σ slv siv, Hid (EAt fb pb rb cb mb B sh dsv (runP sh ⟨[(dflt, [])], 0, 1⟩ lines).v w wx own σ slv siv))))
  case atStart =>
    exact ⟨rfl, .inl ⟨lines, own3, σ3, slv3, siv3, s3, ⟨[(dflt, [])], 0, 1⟩, 0, -1, -1, rfl, rfl, { file := HF3.out, cur := HC3.out, view := HV3.out, rdr := HR3.out, ok := HOK.out, run := rfl, text := rfl, le := Nat.zero_le _, kept := HK3.out }⟩⟩
  case round =>
    obtain ⟨rfl, (⟨rest, own, σ, slv, siv, s, p, r, lb, ls, hgk, rfl, hA⟩ | ⟨rfl, own, σ, slv, siv, hE⟩)⟩ := hrel
    · clear HF3 HR3 HK3 HV3 HC3 hc3 HR2 HF2 HK2 HF1 HBR1 HG1 HPB1 HRB1 HBB1 HCB1 HD1 HW
      have hpc := hA.out.rdr.par.cells
      simp only [parCells] at hpc
      cases rest with
      | nil => as_aux_lemma =>
        have hr0 : r = L := by
          have h1 := congrArg List.length hA.out.text
          rw [List.length_drop] at h1
          have h2 := hA.out.le
          have h3 := HLT.out
          have h4 : (textOf []).length = 0 := rfl
          omega
        subst hr0
        obtain ⟨cs, hbf, _⟩ := hA.out.rdr.buf
        have HBF := Lib.hid hbf
        clear hbf
        go_wp2_with (first
          | (go_at_call 134; refine (readUntil_eof pb cb rb bb br _ B p.cnt _ cap (-1) lb ls ea fa cs _ hL hA.out.rdr.src hA.out.rdr.glob hBrb hBbb hA.out.rdr.rdr HBF.out hA.out.rdr.par).mono ?_
             rintro e W4 ⟨nb, rfl, _, hpb4, hch4⟩
             have HAL : Hid (Alien wr [rb, pb]) := fun b hb => by
               simp only [List.mem_cons, List.not_mem_nil, or_false] at hb
               rcases hb with rfl | rfl
               · exact ⟨_, _, hA.out.rdr.rdr, by decide⟩
               · exact ⟨_, _, hA.out.rdr.par, by decide⟩
             have HF4 := Lib.hid (hA.out.file.alien hch4 HAL.out)
             have HP4 := Lib.hid hpb4
             have HK4 : Hid (Kept B w W4) := hA.out.kept.trans ⟨_, hch4, fun x hx => by simp only [List.mem_cons, List.not_mem_nil, or_false] at hx; rcases hx with rfl | rfl <;> assumption⟩
             have hc4 := HF4.out.file.cells
             simp only [fileCells] at hc4
             clear hpb4 hch4 hpc)
          | (go_at_call 137; refine (trimLeft_empty _ _ _).mono ?_; rintro e W5 ⟨rfl, rfl⟩))
        go_roundg 1
        case measure => omega
        case rel => exact ⟨rfl, .inr ⟨rfl, own, σ, slv, siv, { file := HF4.out, view := hA.out.view.trans hA.out.run, par := ⟨_, HP4.out⟩, kept := HK4.out }⟩⟩
      | cons ln rest =>
        cases ln with
        | sec n => as_aux_lemma =>
          obtain ⟨⟨hN, hvl⟩, hokr⟩ := hA.out.ok
          obtain ⟨q, hq⟩ : ∃ q, q = n.size + 1 := ⟨_, rfl⟩
          have hnp := hN.pos
          have HRU := Lib.hid (readUntil_line pb cb rb bb br r (q + 1) L p.cnt false (textOf lines) (Ln.sec n).body (textOf rest) lb ls wr HLT.out hL hA.out.rdr.hbuf hA.out.text (by rw [sec_length]; omega) (sec_no10 hN) hA.out.rdr.rdr hA.out.rdr.neb hA.out.rdr.bbl hA.out.rdr.par)
          have HNM := Lib.hid hN
          have HOKR := Lib.hid hokr
          have HVL : Hid (σ.length ≤ 100) := by
            have h1 := congrArg List.length hA.out.view
            unfold viewOf at h1
            rw [List.length_map] at h1
            rw [h1]; exact hvl
          have hq1 : ((q : Int) == -1) = false := beq_eq_false_iff_ne.2 (by omega)
          have hq2 : (1 : Int) ≤ (q : Int) := by omega
          have hq4 : q ≤ 300 := by have := hN.max; omega
          have HQ := Lib.hid hq
          clear hN hvl hokr hq
          go_wp2_with (first
            | (go_at_call 134; refine HRU.out.mono ?_
               rintro e W1 ⟨nb, hnb, rfl, hnb1, hrb1, hch1⟩
               have hnb2 : Blk W1 nb 5 (u8s (91 :: (n.data.toList ++ [93, 10]))) := by rw [secLine] at hnb1; exact hnb1
               have HNB1 := Lib.hid hnb2
               have HR1 := Lib.hid (hA.out.rdr.read hch1 hrb1)
               have HF1 := Lib.hid (hA.out.file.alien hch1 hA.out.rdr.alienR)
               have HK1 : Hid (Kept B w W1) := hA.out.kept.trans ⟨_, hch1, by simpa using hBrb⟩
               have hc0 : W1.cell? ⟨nb, 0, none⟩ = some (.int .u8 91) := HNB1.out.cells 0
               have hcq : W1.cell? ⟨nb, q, none⟩ = some (.int .u8 93) := by rw [HNB1.out.cells q, HQ.out]; exact sec_at n 0 93 rfl
               have hcq1 : W1.cell? ⟨nb, q + 1, none⟩ = some (.int .u8 10) := by rw [HNB1.out.cells (q + 1), HQ.out]; exact sec_at n 1 10 rfl
               have hcv : ∀ c, (convert 78 9 (.slice (some ⟨nb, 1, none⟩) (q - 1) c)).run Tryz.prog W1 = .ok (.string n) W1 := fun c => conv_ba W1 nb 1 (q - 1) c n (by rw [HQ.out]; rfl) (fun j c hj => by rw [HNB1.out.cells (1 + j), Nat.add_comm 1 j]; exact sec_name n hj)
               have hcf := HF1.out.file.cells
               simp only [fileCells] at hcf
               clear hnb1 hnb2 hrb1 hch1 hpc)
            | (go_at_call 137; refine (trimLeftB_first nb 0 _ _ 91 _ (by omega) (by omega) (by omega) (by decide) (by decide) (by decide) hc0).mono ?_; rintro e W1' ⟨rfl, rfl⟩)
            | (go_at_call 139; refine (lastIndexByte_close nb q _ _ (by omega) hcq1 hcq).mono ?_; rintro e W1' ⟨rfl, rfl⟩)
            | (go_at_call 78; refine (newSection_file B own fb mb sh σ dsv slv siv n _ HF1.out HNM.out.pos HVL.out).mono ?_
               rintro e W2 ⟨own2, σ2, slv2, siv2, cur2, s2, rfl, hF2, hi2, hv2, hcur2, S2, hch2, hnat2⟩
               have HF2 := Lib.hid hF2
               have HI2 := Lib.hid hi2
               have HV2 := Lib.hid hv2
               have HCU2 := Lib.hid hcur2
               have HR2 := Lib.hid (HR1.out.native hch2 hnat2)
               have HK2 : Hid (Kept B w W2) := HK1.out.trans ⟨S2, hch2, hnat2.ge⟩
               have hcq2 : W2.cell? ⟨nb, q + 1, none⟩ = some (.int .u8 10) := (hch2.cell (p := ⟨nb, q + 1, none⟩) HNB1.out.lt (hnat2.not HNB1.out (by decide))).trans hcq1
               have hp2 := HR2.out.par.cells
               simp only [parCells] at hp2
               clear hF2 hi2 hv2 hcur2 hch2 hnat2 hcf hcv hcq hcq1 hc0
               unfold ptr)
            | (go_at_call 140; refine (cleanComment_nl nb (q + 1) _ _ hcq2).mono ?_
               rintro e W3 ⟨rfl, hch3⟩
               have HR3 := Lib.hid (HR2.out.nil hch3.out)
               have HF3 := Lib.hid (HF2.out.nil hch3.out)
               have HK3 : Hid (Kept B w W3) := HK2.out.trans ⟨[], hch3.out, by simp⟩
               have hp3 := HR3.out.par.cells
               simp only [parCells] at hp3
               clear hp2 hcq2)
            | (go_at_call 141; refine (bufString_nil cb _ HR3.out.com).mono ?_
               rintro e W4 ⟨rfl, hdr4⟩
               have HR4 := Lib.hid (HR3.out.nil (hdr4.out.ch []))
               have HF4 := Lib.hid (HF3.out.nil (hdr4.out.ch []))
               have HK4 : Hid (Kept B w W4) := HK3.out.trans ⟨[], hdr4.out.ch [], by simp⟩
               clear hp3)
            | (go_at_call 86; refine (trimSpace_nil _).mono ?_
               rintro e W5 ⟨rfl, hch5⟩
               have HR5 := Lib.hid (HR4.out.nil hch5.out)
               have HF5 := Lib.hid (HF4.out.nil hch5.out)
               have HK5 : Hid (Kept B w W5) := HK4.out.trans ⟨[], hch5.out, by simp⟩
               have hs5 := (HF5.out.secs _ _ HI2.out).sec.cells
               have hs5f := (HF5.out.secs _ _ HI2.out).sec.frees
               simp only [secCells] at hs5
               have HF6 := Lib.hid (HF5.out.setCom HI2.out)
               have hch6 : Ch [s2.sb] W5 (W5.setCell ⟨s2.sb, 1, none⟩ (.string es)) := (Ch.refl _ _).set (by simp) _
               have hR6 := HR5.out.native hch6 HF6.out.choose_spec.2
               have HR6 := Lib.hid hR6
               have HK6 : Hid (Kept B w (W5.setCell ⟨s2.sb, 1, none⟩ (.string es))) := HK5.out.trans ⟨_, hch6, HF6.out.choose_spec.2.ge⟩
               have hp6 := hR6.par.cells
               simp only [parCells] at hp6
               clear hch6 hR6)
            | (go_at_call 142; refine (bufReset_nil cb _ HR6.out.com).mono ?_
               rintro e W7 ⟨rfl, hcom7, hch7⟩
               have HR7 := Lib.hid (HR6.out.reset hch7.out hcom7.out)
               have HF7 := Lib.hid (HF6.out.choose_spec.1.alien hch7.out HR6.out.alienC)
               have HK7 : Hid (Kept B w W7) := HK6.out.trans ⟨_, hch7.out, by simpa using hBcb⟩
               have hp7 := HR7.out.par.cells
               have hp7f := HR7.out.par.frees
               simp only [parCells] at hp7
               have HR8 := Lib.hid (HR7.out.count 1)
               have hF8 := HF7.out.alien (w' := W7.setCell ⟨pb, 10, none⟩ (.int .i64 1)) ((Ch.refl [pb] W7).set (by simp) _) HR7.out.alienP
               have HF8 := Lib.hid hF8
               have HK8 : Hid (Kept B w (W7.setCell ⟨pb, 10, none⟩ (.int .i64 1))) := HK7.out.trans ⟨[pb], (Ch.refl [pb] W7).set (by simp) _, by simpa using hBpb⟩
               have hc8 := hF8.file.cells
               simp only [fileCells] at hc8
               clear hp6 hs5 hs5f hF8))
          refine wp_loop_rounds 1 ?_
          rw [rounds_succ]
          go_wp2
          go_roundg (rest.length + 2)
          case measure => rw [List.length_cons] at hgk; omega
          case rel =>
            obtain ⟨d1, d2⟩ := drop_line (m := q + 1) hA.out.text (by rw [sec_length, HQ.out])
            have hcu : σ2[(secV p.v n).2]? = some s2 := by rw [← hA.out.view, ← HCU2.out]; exact HI2.out
            exact ⟨rfl, .inl ⟨rest, _, σ2, slv2, siv2, s2, ⟨(secV p.v n).1, (secV p.v n).2, 1⟩, r + (q + 1) + 1, 10, -1, rfl, rfl,
              { file := HF8.out, cur := hcu, view := by rw [HV2.out, hA.out.view], rdr := HR8.out, ok := HOKR.out, run := hA.out.run, text := d1, le := by rw [HLT.out]; exact d2, kept := HK8.out }⟩⟩
        | key k v =>
          obtain ⟨⟨htt, hN, hV, hcnt, sv, hsv, hokk⟩, hokr⟩ := hA.out.ok
          have HCUR := Lib.hid hA.out.cur
          have HOKK : Hid (okKey sh s.view.2 (keyOf p.cnt k) v) := by
            have h1 : (viewOf σ)[p.cur]? = some s.view := by unfold viewOf; rw [List.getElem?_map, HCUR.out]; rfl
            rw [hA.out.view, hsv] at h1
            cases h1; exact hokk
          obtain ⟨n0, hn0⟩ : ∃ n0, n0 = k.size + 1 := ⟨_, rfl⟩
          obtain ⟨m, hm⟩ : ∃ m, m = k.size + 3 + v.size := ⟨_, rfl⟩
          obtain ⟨c0, hc0⟩ : ∃ c0, bt k 0 = c0 := ⟨_, rfl⟩
          have hf0 := nameCh_facts (hN.ch 0 hN.pos)
          have hspc := nameCh_spc (hN.ch 0 hN.pos)
          rw [hc0] at hf0 hspc
          obtain ⟨f1, f2, f3, f4, f5, f6, f7, f8⟩ := hf0
          have d35 : (c0 == 35) = false := beq_eq_false_iff_ne.2 (by omega)
          have d59 : (c0 == 59) = false := beq_eq_false_iff_ne.2 (by omega)
          have d91 : (c0 == 91) = false := beq_eq_false_iff_ne.2 (by omega)
          have hvmax := hV.max
          have hvpos := hV.pos
          have hkmax := hN.max
          have HRU := Lib.hid (readUntil_line pb cb rb bb br r m L p.cnt false (textOf lines) (Ln.key k v).body (textOf rest) lb ls wr HLT.out hL hA.out.rdr.hbuf hA.out.text (by rw [key_length]; exact hm) (key_no10 hN hV) hA.out.rdr.rdr hA.out.rdr.neb hA.out.rdr.bbl hA.out.rdr.par)
          have hmL : m + 1 ≤ 4096 := by
            have h1 := (drop_line (m := m) hA.out.text (by rw [key_length]; exact hm)).2
            have h2 := HLT.out
            omega
          have hmn : n0 < m := by omega
          have hn1 : 0 < n0 := by omega
          have HNM := Lib.hid hN
          have HVA := Lib.hid hV
          have HOKR := Lib.hid hokr
          have HN0 := Lib.hid hn0
          have HM := Lib.hid hm
          have HC0 := Lib.hid hc0
          have HK34 : Hid (bt (keyText k v) 0 ≠ 34) := (show bt (keyText k v) 0 ≠ 34 by rw [keyText_lt k v 0 hN.pos, hc0]; omega)
          have HK96 : Hid (bt (keyText k v) 0 ≠ 96) := (show bt (keyText k v) 0 ≠ 96 by rw [keyText_lt k v 0 hN.pos, hc0]; omega)
          have HKAT : Hid (bt (keyText k v) n0 = 61) := by rw [hn0, keyText_at]; rfl
          have HKPRE : Hid (∀ i, i < n0 → bt (keyText k v) i < 128 ∧ bt (keyText k v) i ≠ 61 ∧ bt (keyText k v) i ≠ 58) := fun i hi => by
            by_cases h : i < k.size
            · rw [keyText_lt k v i h]
              have := nameCh_facts (hN.ch i h)
              omega
            · have : i = k.size + 0 := by omega
              rw [this, keyText_at]
              show ((32 : Int) < 128 ∧ (32 : Int) ≠ 61 ∧ (32 : Int) ≠ 58)
              decide
          have HKTR : Hid (Lib.trimSpace ((keyText k v).extract 0 n0).data.toList = k.data.toList) := by rw [hn0]; exact keyText_trim hN
          clear hV hokr hn0 hm hc0 hsv hokk f3 f4 f5 f6 f7 f8
          by_cases hd : k = dash
          · as_aux_lemma =>
            obtain ⟨zs, hzs, hnz, hIT⟩ := itoa_str p.cnt hcnt
            obtain ⟨nm, hnm⟩ : ∃ nm, (⟨#[35]⟩ : ByteArray) ++ zs = nm := ⟨_, rfl⟩
            rw [hnm] at hnz
            have HIT := Lib.hid hIT
            have hc100 : p.cnt < 100 := hcnt
            clear hIT hcnt
            have HKO : Hid (keyOf p.cnt k = nm) := by unfold keyOf; exact (if_pos hd).trans hnz
            have hdq : (k.toList == [45]) = true := by rw [hd, ByteArray.toList_eq]; decide
            have HPQ : Hid ((if k = dash then p.cnt + 1 else p.cnt) = p.cnt + 1) := if_pos hd
            have HND : Hid (0 < nm.size) := by rw [← hnm, ByteArray.size_append]; show 0 < 1 + _; omega
            have HNH : Hid (bt nm 0 = 35) := by rw [← hnz]; exact numName_head _
            clear hd hN hnz
            go_wp2_with (first
              | (go_at_call 134; refine HRU.out.mono ?_
                 rintro e W1 ⟨nb, hnb, rfl, hnb1, hrb1, hch1⟩
                 have HNB1 := Lib.hid hnb1
                 have HR1 := Lib.hid (hA.out.rdr.read hch1 hrb1)
                 have HF1 := Lib.hid (hA.out.file.alien hch1 hA.out.rdr.alienR)
                 have HK1 : Hid (Kept B w W1) := hA.out.kept.trans ⟨_, hch1, by simpa using hBrb⟩
                 have HCL1 : Hid (∀ j c, (keyText k v).data.toList[j]? = some c → W1.cell? ⟨nb, 0 + j, none⟩ = some (.int .u8 c.toNat)) := fun j c hj => by
                   rw [Nat.zero_add, HNB1.out.cells j]; unfold u8s; rw [List.getElem?_map, (show ((Ln.key k v).body ++ [10])[j]? = some c from hj)]; rfl
                 have hcc0 : W1.cell? ⟨nb, 0, none⟩ = some (.int .u8 c0) := by rw [← HC0.out]; exact keyCell0 HNM.out.pos HCL1.out
                 have hcf := HF1.out.file.cells
                 simp only [fileCells] at hcf
                 clear hnb1 hrb1 hch1 hpc)
              | (go_at_call 137; refine (trimLeftB_first nb 0 _ _ c0 _ (by omega) (by omega) (by omega) (by omega) (by omega) hspc hcc0).mono ?_; rintro e W1' ⟨rfl, rfl⟩)
              | (go_at_call 144; refine (readKeyName_line (keyText k v) k nb _ n0 (m + 1) _ (by rw [keyText_size, ← HM.out]) (by omega) HCL1 HK34.out HK96.out (by omega) (by omega) HKAT.out HKPRE (HR1.out.tab htt) (HKTR)).mono ?_
                 rintro e W2 ⟨rfl, hch2⟩
                 have HR2 := Lib.hid (HR1.out.nil hch2.out)
                 have HF2 := Lib.hid (HF1.out.nil hch2.out)
                 have HK2 : Hid (Kept B w W2) := HK1.out.trans ⟨[], hch2.out, by simp⟩
                 have HNB2 : Hid (Blk W2 nb 5 (u8s ((Ln.key k v).body ++ [10]))) := HNB1.out.ch hch2.out (by simp)
                 have hp2 := HR2.out.par.cells
                 have hp2f := HR2.out.par.frees
                 simp only [parCells] at hp2
                 have HR2b := Lib.hid (HR2.out.count ((p.cnt : Int) + 1))
                 have HF2b := Lib.hid (HF2.out.alien (w' := (W2.setCell ⟨pb, 10, none⟩ (.int .i64 ((p.cnt : Int) + 1)))) ((Ch.refl [pb] W2).set (by simp) _) HR2.out.alienP)
                 have HK2b : Hid (Kept B w (W2.setCell ⟨pb, 10, none⟩ (.int .i64 ((p.cnt : Int) + 1)))) := HK2.out.trans ⟨[pb], (Ch.refl [pb] W2).set (by simp) _, by simpa using hBpb⟩
                 have HNB2b : Hid (Blk (W2.setCell ⟨pb, 10, none⟩ (.int .i64 ((p.cnt : Int) + 1))) nb 5 (u8s ((Ln.key k v).body ++ [10]))) := HNB2.out.setCell (HNB2.out.ne HR2.out.par (by decide)) _
                 clear hcf hcc0)
              | (go_at_call 149; refine (HIT.out _).mono ?_; rintro e W2' ⟨rfl, rfl⟩)
              | (go_at_call 146; refine (readValue_plain v pb rb cb false _ nb _ _ _ _ HVA.out (by have := HM.out; have := HN0.out; omega) HR2b.out.par (fun j c hj => keyCellR HN0.out (HNB2b.out) hj) (HR2b.out.tab htt)).mono ?_
                 rintro e W3 ⟨rfl, hch3⟩
                 have HR3 := Lib.hid (HR2b.out.nil hch3.out)
                 have HF3 := Lib.hid (HF2b.out.nil hch3.out)
                 have HK3 : Hid (Kept B w W3) := HK2b.out.trans ⟨[], hch3.out, by simp⟩
                 clear hp2 hp2f)
              | (go_at_call 79; refine (newKey_file B own fb mb sh σ dsv slv siv p.cur s nm v _ HF3.out HCUR.out HND.out (by rw [← HKO.out]; exact HOKK.out)).mono ?_
                 rintro e W4 ⟨own4, σ4, slv4, siv4, s4, j4, k4, rfl, hF4, hi4, hsb4, hj4, hkn4, hv4, S4, hch4, hnat4⟩
                 have HF4 := Lib.hid hF4
                 have HI4 := Lib.hid hi4
                 have HSB4 := Lib.hid hsb4
                 have HJ4 := Lib.hid hj4
                 have HV4 := Lib.hid hv4
                 have HR4 := Lib.hid (HR3.out.native hch4 hnat4)
                 have HK4 : Hid (Kept B w W4) := HK3.out.trans ⟨S4, hch4, hnat4.ge⟩
                 have hk4 := ((hF4.secs _ _ hi4).keys k4 (List.mem_of_getElem? hj4)).key.cells
                 have hk4f := ((hF4.secs _ _ hi4).keys k4 (List.mem_of_getElem? hj4)).key.frees
                 simp only [keyCells] at hk4
                 obtain ⟨own5, σ5, s5, k5, hF5, hi5, hsb5, hj5, hkb5, hv5, hnat5⟩ := hF4.setAuto hi4 hj4 true (fun _ => by rw [hkn4]; exact HNH.out)
                 have hch5 : Ch [k4.kb] W4 (W4.setCell ⟨k4.kb, 4, none⟩ (.bool true)) := (Ch.refl _ _).set (by simp) _
                 have HF5 := Lib.hid hF5
                 have HI5 := Lib.hid hi5
                 have HSB5 := Lib.hid hsb5
                 have HJ5 := Lib.hid hj5
                 have HKB5 := Lib.hid hkb5
                 have HV5 := Lib.hid hv5
                 have hR5 := HR4.out.native hch5 hnat5
                 have HR5 := Lib.hid hR5
                 have HK5 : Hid (Kept B w (W4.setCell ⟨k4.kb, 4, none⟩ (.bool true))) := HK4.out.trans ⟨_, hch5, hnat5.ge⟩
                 have hp5 := hR5.par.cells
                 simp only [parCells] at hp5
                 clear hF4 hi4 hsb4 hj4 hv4 hch4 hnat4 hF5 hi5 hsb5 hj5 hkb5 hv5 hnat5 hch5 hR5
                 unfold ptr)
              | (go_at_call 141; refine (bufString_nil cb _ HR5.out.com).mono ?_
                 rintro e W6 ⟨rfl, hdr6⟩
                 have HR6 := Lib.hid (HR5.out.nil (hdr6.out.ch []))
                 have HF6 := Lib.hid (HF5.out.nil (hdr6.out.ch []))
                 have HK6 : Hid (Kept B w W6) := HK5.out.trans ⟨[], hdr6.out.ch [], by simp⟩
                 clear hp5 hk4 hk4f)
              | (go_at_call 86; refine (trimSpace_nil _).mono ?_
                 rintro e W7 ⟨rfl, hch7⟩
                 have HR7 := Lib.hid (HR6.out.nil hch7.out)
                 have HF7 := Lib.hid (HF6.out.nil hch7.out)
                 have HK7 : Hid (Kept B w W7) := HK6.out.trans ⟨[], hch7.out, by simp⟩
                 have hk7 := ((HF7.out.secs _ _ HI5.out).keys k5 (List.mem_of_getElem? HJ5.out)).key.cells
                 have hk7f := ((HF7.out.secs _ _ HI5.out).keys k5 (List.mem_of_getElem? HJ5.out)).key.frees
                 simp only [keyCells] at hk7
                 obtain ⟨own8, σ8, s8, k8, hF8, hi8, hsb8, hj8, hkb8, hv8, hnat8⟩ := HF7.out.setKCom HI5.out HJ5.out
                 rw [HKB5.out] at hk7 hk7f hF8 hnat8
                 have hch8 : Ch [k4.kb] W7 (W7.setCell ⟨k4.kb, 1, none⟩ (.string es)) := (Ch.refl _ _).set (by simp) _
                 have HF8 := Lib.hid hF8
                 have HI8 := Lib.hid hi8
                 have HSB8 := Lib.hid hsb8
                 have HV8 := Lib.hid hv8
                 have hR8 := HR7.out.native hch8 hnat8
                 have HR8 := Lib.hid hR8
                 have HK8 : Hid (Kept B w (W7.setCell ⟨k4.kb, 1, none⟩ (.string es))) := HK7.out.trans ⟨_, hch8, hnat8.ge⟩
                 have hp8 := hR8.par.cells
                 simp only [parCells] at hp8
                 clear hF8 hi8 hsb8 hj8 hkb8 hv8 hnat8 hch8 hR8)
              | (go_at_call 142; refine (bufReset_nil cb _ HR8.out.com).mono ?_
                 rintro e W9 ⟨rfl, hcom9, hch9⟩
                 have HR9 := Lib.hid (HR8.out.reset hch9.out hcom9.out)
                 have HF9 := Lib.hid (HF8.out.alien hch9.out HR8.out.alienC)
                 have HK9 : Hid (Kept B w W9) := HK8.out.trans ⟨_, hch9.out, by simpa using hBcb⟩
                 clear hp8 hk7 hk7f))
            go_roundg (rest.length + 2)
            case measure => rw [List.length_cons] at hgk; omega
            case rel =>
              obtain ⟨d1, d2⟩ := drop_line (m := m) hA.out.text (by rw [key_length, HM.out])
              have hvw : viewOf σ8 = (stepP sh p (.key k v)).v := by rw [HV8.out, HV5.out, HV4.out, hA.out.view]; show _ = putV sh p.v p.cur (keyOf p.cnt k) v; rw [HKO.out]
              have hcn : (((if k = dash then p.cnt + 1 else p.cnt : Nat)) : Int) = (p.cnt : Int) + 1 := by rw [HPQ.out]; omega
              have hrr := HR9.out
              rw [← hcn] at hrr
              have hsb : ptr s.sb = ptr s8.sb := by rw [HSB8.out, HSB5.out, HSB4.out]
              exact ⟨rfl, .inl ⟨rest, own8, σ8, slv4, siv4, s8, stepP sh p (.key k v), r + m + 1, 10, -1, rfl, hsb,
                { file := HF9.out, cur := HI8.out, view := hvw, rdr := hrr, ok := HOKR.out, run := hA.out.run, text := d1, le := by rw [HLT.out]; exact d2, kept := HK9.out }⟩⟩
          · as_aux_lemma =>
            have HKO : Hid (keyOf p.cnt k = k) := by unfold keyOf; exact if_neg hd
            have hdq : (k.toList == [45]) = false := beq_eq_false_iff_ne.2 (fun e => hd (ba_of_list e))
            have HPQ : Hid ((if k = dash then p.cnt + 1 else p.cnt) = p.cnt) := if_neg hd
            have HND : Hid (0 < k.size) := hN.pos
            clear hd hN
            go_wp2_with (first
              | (go_at_call 134; refine HRU.out.mono ?_
                 rintro e W1 ⟨nb, hnb, rfl, hnb1, hrb1, hch1⟩
                 have HNB1 := Lib.hid hnb1
                 have HR1 := Lib.hid (hA.out.rdr.read hch1 hrb1)
                 have HF1 := Lib.hid (hA.out.file.alien hch1 hA.out.rdr.alienR)
                 have HK1 : Hid (Kept B w W1) := hA.out.kept.trans ⟨_, hch1, by simpa using hBrb⟩
                 have HCL1 : Hid (∀ j c, (keyText k v).data.toList[j]? = some c → W1.cell? ⟨nb, 0 + j, none⟩ = some (.int .u8 c.toNat)) := fun j c hj => by
                   rw [Nat.zero_add, HNB1.out.cells j]; unfold u8s; rw [List.getElem?_map, (show ((Ln.key k v).body ++ [10])[j]? = some c from hj)]; rfl
                 have hcc0 : W1.cell? ⟨nb, 0, none⟩ = some (.int .u8 c0) := by rw [← HC0.out]; exact keyCell0 HNM.out.pos HCL1.out
                 have hcf := HF1.out.file.cells
                 simp only [fileCells] at hcf
                 clear hnb1 hrb1 hch1 hpc)
              | (go_at_call 137; refine (trimLeftB_first nb 0 _ _ c0 _ (by omega) (by omega) (by omega) (by omega) (by omega) hspc hcc0).mono ?_; rintro e W1' ⟨rfl, rfl⟩)
              | (go_at_call 144; refine (readKeyName_line (keyText k v) k nb _ n0 (m + 1) _ (by rw [keyText_size, ← HM.out]) (by omega) HCL1 HK34.out HK96.out (by omega) (by omega) HKAT.out HKPRE (HR1.out.tab htt) (HKTR)).mono ?_
                 rintro e W2 ⟨rfl, hch2⟩
                 have HR2 := Lib.hid (HR1.out.nil hch2.out)
                 have HF2 := Lib.hid (HF1.out.nil hch2.out)
                 have HK2 : Hid (Kept B w W2) := HK1.out.trans ⟨[], hch2.out, by simp⟩
                 have HNB2 : Hid (Blk W2 nb 5 (u8s ((Ln.key k v).body ++ [10]))) := HNB1.out.ch hch2.out (by simp)
                 have hp2 := HR2.out.par.cells
                 have hp2f := HR2.out.par.frees
                 simp only [parCells] at hp2
                 have HR2b := HR2
                 have HF2b := HF2
                 have HK2b := HK2
                 have HNB2b := HNB2
                 clear hcf hcc0)
              | (go_at_call 146; refine (readValue_plain v pb rb cb false _ nb _ _ _ _ HVA.out (by have := HM.out; have := HN0.out; omega) HR2b.out.par (fun j c hj => keyCellR HN0.out (HNB2b.out) hj) (HR2b.out.tab htt)).mono ?_
                 rintro e W3 ⟨rfl, hch3⟩
                 have HR3 := Lib.hid (HR2b.out.nil hch3.out)
                 have HF3 := Lib.hid (HF2b.out.nil hch3.out)
                 have HK3 : Hid (Kept B w W3) := HK2b.out.trans ⟨[], hch3.out, by simp⟩
                 clear hp2 hp2f)
              | (go_at_call 79; refine (newKey_file B own fb mb sh σ dsv slv siv p.cur s k v _ HF3.out HCUR.out HND.out (by rw [← HKO.out]; exact HOKK.out)).mono ?_
                 rintro e W4 ⟨own4, σ4, slv4, siv4, s4, j4, k4, rfl, hF4, hi4, hsb4, hj4, hkn4, hv4, S4, hch4, hnat4⟩
                 have HF4 := Lib.hid hF4
                 have HI4 := Lib.hid hi4
                 have HSB4 := Lib.hid hsb4
                 have HJ4 := Lib.hid hj4
                 have HV4 := Lib.hid hv4
                 have HR4 := Lib.hid (HR3.out.native hch4 hnat4)
                 have HK4 : Hid (Kept B w W4) := HK3.out.trans ⟨S4, hch4, hnat4.ge⟩
                 have hk4 := ((hF4.secs _ _ hi4).keys k4 (List.mem_of_getElem? hj4)).key.cells
                 have hk4f := ((hF4.secs _ _ hi4).keys k4 (List.mem_of_getElem? hj4)).key.frees
                 simp only [keyCells] at hk4
                 obtain ⟨own5, σ5, s5, k5, hF5, hi5, hsb5, hj5, hkb5, hv5, hnat5⟩ := hF4.setAuto hi4 hj4 false (fun h => by cases h)
                 have hch5 : Ch [k4.kb] W4 (W4.setCell ⟨k4.kb, 4, none⟩ (.bool false)) := (Ch.refl _ _).set (by simp) _
                 have HF5 := Lib.hid hF5
                 have HI5 := Lib.hid hi5
                 have HSB5 := Lib.hid hsb5
                 have HJ5 := Lib.hid hj5
                 have HKB5 := Lib.hid hkb5
                 have HV5 := Lib.hid hv5
                 have hR5 := HR4.out.native hch5 hnat5
                 have HR5 := Lib.hid hR5
                 have HK5 : Hid (Kept B w (W4.setCell ⟨k4.kb, 4, none⟩ (.bool false))) := HK4.out.trans ⟨_, hch5, hnat5.ge⟩
                 have hp5 := hR5.par.cells
                 simp only [parCells] at hp5
                 clear hF4 hi4 hsb4 hj4 hv4 hch4 hnat4 hF5 hi5 hsb5 hj5 hkb5 hv5 hnat5 hch5 hR5
                 unfold ptr)
              | (go_at_call 141; refine (bufString_nil cb _ HR5.out.com).mono ?_
                 rintro e W6 ⟨rfl, hdr6⟩
                 have HR6 := Lib.hid (HR5.out.nil (hdr6.out.ch []))
                 have HF6 := Lib.hid (HF5.out.nil (hdr6.out.ch []))
                 have HK6 : Hid (Kept B w W6) := HK5.out.trans ⟨[], hdr6.out.ch [], by simp⟩
                 clear hp5 hk4 hk4f)
              | (go_at_call 86; refine (trimSpace_nil _).mono ?_
                 rintro e W7 ⟨rfl, hch7⟩
                 have HR7 := Lib.hid (HR6.out.nil hch7.out)
                 have HF7 := Lib.hid (HF6.out.nil hch7.out)
                 have HK7 : Hid (Kept B w W7) := HK6.out.trans ⟨[], hch7.out, by simp⟩
                 have hk7 := ((HF7.out.secs _ _ HI5.out).keys k5 (List.mem_of_getElem? HJ5.out)).key.cells
                 have hk7f := ((HF7.out.secs _ _ HI5.out).keys k5 (List.mem_of_getElem? HJ5.out)).key.frees
                 simp only [keyCells] at hk7
                 obtain ⟨own8, σ8, s8, k8, hF8, hi8, hsb8, hj8, hkb8, hv8, hnat8⟩ := HF7.out.setKCom HI5.out HJ5.out
                 rw [HKB5.out] at hk7 hk7f hF8 hnat8
                 have hch8 : Ch [k4.kb] W7 (W7.setCell ⟨k4.kb, 1, none⟩ (.string es)) := (Ch.refl _ _).set (by simp) _
                 have HF8 := Lib.hid hF8
                 have HI8 := Lib.hid hi8
                 have HSB8 := Lib.hid hsb8
                 have HV8 := Lib.hid hv8
                 have hR8 := HR7.out.native hch8 hnat8
                 have HR8 := Lib.hid hR8
                 have HK8 : Hid (Kept B w (W7.setCell ⟨k4.kb, 1, none⟩ (.string es))) := HK7.out.trans ⟨_, hch8, hnat8.ge⟩
                 have hp8 := hR8.par.cells
                 simp only [parCells] at hp8
                 clear hF8 hi8 hsb8 hj8 hkb8 hv8 hnat8 hch8 hR8)
              | (go_at_call 142; refine (bufReset_nil cb _ HR8.out.com).mono ?_
                 rintro e W9 ⟨rfl, hcom9, hch9⟩
                 have HR9 := Lib.hid (HR8.out.reset hch9.out hcom9.out)
                 have HF9 := Lib.hid (HF8.out.alien hch9.out HR8.out.alienC)
                 have HK9 : Hid (Kept B w W9) := HK8.out.trans ⟨_, hch9.out, by simpa using hBcb⟩
                 clear hp8 hk7 hk7f))
            go_roundg (rest.length + 2)
            case measure => rw [List.length_cons] at hgk; omega
            case rel =>
              obtain ⟨d1, d2⟩ := drop_line (m := m) hA.out.text (by rw [key_length, HM.out])
              have hvw : viewOf σ8 = (stepP sh p (.key k v)).v := by rw [HV8.out, HV5.out, HV4.out, hA.out.view]; show _ = putV sh p.v p.cur (keyOf p.cnt k) v; rw [HKO.out]
              have hcn : (((if k = dash then p.cnt + 1 else p.cnt : Nat)) : Int) = (p.cnt : Int) := by rw [HPQ.out]
              have hrr := HR9.out
              rw [← hcn] at hrr
              have hsb : ptr s.sb = ptr s8.sb := by rw [HSB8.out, HSB5.out, HSB4.out]
              exact ⟨rfl, .inl ⟨rest, own8, σ8, slv4, siv4, s8, stepP sh p (.key k v), r + m + 1, 10, -1, rfl, hsb,
                { file := HF9.out, cur := HI8.out, view := hvw, rdr := hrr, ok := HOKR.out, run := hA.out.run, text := d1, le := by rw [HLT.out]; exact d2, kept := HK9.out }⟩⟩
    · as_aux_lemma =>
      obtain ⟨cnt, hp⟩ := hE.out.par
      have hpc := hp.cells
      simp only [parCells] at hpc
      clear HF3 HR3 HK3 HV3 HC3 hc3 HR2 HF2 HK2 HF1 HBR1 HG1 HPB1 HRB1 HBB1 HCB1 HD1 HW hp
      go_wp2
      go_ret
      exact ⟨rfl, own, σ, slv, siv, hE.out.file, hE.out.view, hE.out.kept⟩
end Go.Proofs.YtfnncdngfggcjaaGreatDoor
