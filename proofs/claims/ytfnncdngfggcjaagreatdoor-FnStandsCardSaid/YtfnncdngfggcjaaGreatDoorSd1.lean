/- Contracts of varPattern, zzIndex and zzReplaceAll at a text in which one name stands between '%(' and ')s'. -/
import Derived.Test.YtfnncdngfggcjaaGreatDoorFi2
import Derived.Test.YtfnncdngfggcjaaGreatDoorStr
import Derived.Test.YtfnncdngfggcjaaGreatDoorNm2
namespace Go.Proofs.YtfnncdngfggcjaaGreatDoor
open Go.RowKit

/-- %(name)s -/
def vrT (name : ByteArray) : ByteArray := ⟨(37 :: 40 :: (name.data.toList ++ [41, 115])).toArray⟩
/-- A text with %(name)s in it. -/
def valT (pre name post : ByteArray) : ByteArray := ⟨(pre.data.toList ++ (37 :: 40 :: (name.data.toList ++ (41 :: 115 :: post.data.toList)))).toArray⟩
theorem vrT_list (name : ByteArray) : (vrT name).data.toList = 37 :: 40 :: (name.data.toList ++ [41, 115]) := by unfold vrT; simp
theorem valT_list (pre name post : ByteArray) : (valT pre name post).data.toList = pre.data.toList ++ (37 :: 40 :: (name.data.toList ++ (41 :: 115 :: post.data.toList))) := by unfold valT; simp
theorem vrT_size (name : ByteArray) : (vrT name).size = name.size + 4 := by rw [← toList_length, vrT_list]; simp
theorem valT_size (pre name post : ByteArray) : (valT pre name post).size = pre.size + (name.size + 4) + post.size := by
  rw [← toList_length, valT_list]; simp only [List.length_append, List.length_cons, toList_length]; omega
theorem bt_get? {s : ByteArray} {i : Nat} {c : UInt8} (h : s.data.toList[i]? = some c) : bt s i = (c.toNat : Int) := bt_at h

section
variable {pre name post : ByteArray}
theorem valT_pre {i : Nat} (h : i < pre.size) : (valT pre name post).data.toList[i]? = pre.data.toList[i]? := by
  rw [valT_list, List.getElem?_append_left (by rw [toList_length]; exact h)]
theorem valT_0 : (valT pre name post).data.toList[pre.size]? = some 37 := by
  rw [valT_list, List.getElem?_append_right (by rw [toList_length]; exact Nat.le_refl _), toList_length, Nat.sub_self]; rfl
theorem valT_1 : (valT pre name post).data.toList[pre.size + 1]? = some 40 := by
  rw [valT_list, List.getElem?_append_right (by rw [toList_length]; omega), toList_length, show pre.size + 1 - pre.size = 1 by omega]; rfl
theorem valT_name {i : Nat} (h : i < name.size) : (valT pre name post).data.toList[pre.size + 2 + i]? = name.data.toList[i]? := by
  rw [valT_list, List.getElem?_append_right (by rw [toList_length]; omega), toList_length, show pre.size + 2 + i - pre.size = i + 2 by omega]
  show (name.data.toList ++ _)[i]? = _
  rw [List.getElem?_append_left (by rw [toList_length]; exact h)]
theorem valT_2 : (valT pre name post).data.toList[pre.size + 2 + name.size]? = some 41 := by
  rw [valT_list, List.getElem?_append_right (by rw [toList_length]; omega), toList_length, show pre.size + 2 + name.size - pre.size = name.size + 2 by omega]
  show (name.data.toList ++ _)[name.size]? = _
  rw [List.getElem?_append_right (by rw [toList_length]; exact Nat.le_refl _), toList_length, Nat.sub_self]; rfl
theorem valT_3 : (valT pre name post).data.toList[pre.size + 2 + name.size + 1]? = some 115 := by
  rw [valT_list, List.getElem?_append_right (by rw [toList_length]; omega), toList_length, show pre.size + 2 + name.size + 1 - pre.size = name.size + 1 + 2 by omega]
  show (name.data.toList ++ _)[name.size + 1]? = _
  rw [List.getElem?_append_right (by rw [toList_length]; omega), toList_length, show name.size + 1 - name.size = 1 by omega]; rfl
theorem valT_post {j : Nat} : (valT pre name post).data.toList[pre.size + (name.size + 4) + j]? = post.data.toList[j]? := by
  rw [valT_list, List.getElem?_append_right (by rw [toList_length]; omega), toList_length, show pre.size + (name.size + 4) + j - pre.size = name.size + 2 + j + 2 by omega]
  show (name.data.toList ++ _)[name.size + 2 + j]? = _
  rw [List.getElem?_append_right (by rw [toList_length]; omega), toList_length, show name.size + 2 + j - name.size = j + 2 by omega]; rfl
theorem valT_vr : (valT pre name post).extract pre.size (pre.size + 2 + name.size + 2) = vrT name := by
  apply ba_ext
  rw [vrT_list, ByteArray.data_extract, Array.toList_extract, List.extract_eq_take_drop, valT_list, List.drop_left' (toList_length pre), show pre.size + 2 + name.size + 2 - pre.size = name.size + 4 by omega]
  show 37 :: 40 :: List.take (name.size + 2) (name.data.toList ++ _) = _
  rw [List.take_append, toList_length, List.take_of_length_le (by rw [toList_length]; omega), show name.size + 2 - name.size = 2 by omega]
  rfl
theorem vrT_name : (vrT name).extract 2 ((vrT name).size - 2) = name := by
  apply ba_ext
  rw [vrT_size, ByteArray.data_extract, Array.toList_extract, List.extract_eq_take_drop, vrT_list]
  show List.take (name.size + 4 - 2 - 2) (name.data.toList ++ [41, 115]) = _
  rw [show name.size + 4 - 2 - 2 = name.size by omega, List.take_append_of_le_length (by rw [toList_length]; exact Nat.le_refl _), List.take_of_length_le (by rw [toList_length]; exact Nat.le_refl _)]
end

/-- What the pieces must be. -/
structure SubIn (pre name post : ByteArray) : Prop where
  fpre : ∀ i, i < pre.size → bt pre i ≠ 37
  fpost : ∀ i, i < post.size → bt post i ≠ 37
  fname : ∀ i, i < name.size → bt name i ≠ 41
  npos : 0 < name.size
  lp : pre.size ≤ 100
  ln : name.size ≤ 100
  lq : post.size ≤ 100

set_option maxRecDepth 100000 in
set_option maxHeartbeats 2000000 in
theorem varPattern_at (pre name post : ByteArray) (w : World) (h : Hid (SubIn pre name post)) :
    Calls Tryz.prog 99 #[.string (valT pre name post)] w fun e w' => e = .returned (.string (vrT name)) ∧ w = w' := by
  have hsz := valT_size pre name post
  have lp := h.out.lp
  have ln := h.out.ln
  have lq := h.out.lq
  have np := h.out.npos
  have HPRE : Hid (∀ i, i < pre.size → bt (valT pre name post) i ≠ 37) := fun i hi => by
    have h1 := h.out.fpre i hi
    unfold bt at h1 ⊢
    rw [List.getD_eq_getElem?_getD] at h1 ⊢
    rwa [valT_pre hi]
  have hat0 := bt_at (valT_0 (pre := pre) (name := name) (post := post))
  have hat1 := bt_at (valT_1 (pre := pre) (name := name) (post := post))
  have hat2 := bt_at (valT_2 (pre := pre) (name := name) (post := post))
  have hat3 := bt_at (valT_3 (pre := pre) (name := name) (post := post))
  have HNAM : Hid (∀ e, pre.size + 2 ≤ e → e < pre.size + 2 + name.size → bt (valT pre name post) e ≠ 41) := fun e h1 h2 => by
    have h3 := h.out.fname (e - (pre.size + 2)) (by omega)
    have h4 := valT_name (pre := pre) (name := name) (post := post) (i := e - (pre.size + 2)) (by omega)
    rw [show pre.size + 2 + (e - (pre.size + 2)) = e by omega] at h4
    unfold bt at h3 ⊢
    rw [List.getD_eq_getElem?_getD] at h3 ⊢
    rwa [h4]
  have HEX := Lib.hid (valT_vr (pre := pre) (name := name) (post := post))
  obtain ⟨s, hs⟩ : ∃ s, valT pre name post = s := ⟨_, rfl⟩
  obtain ⟨p, hp⟩ : ∃ p, pre.size = p := ⟨_, rfl⟩
  obtain ⟨q, hq⟩ : ∃ q, p + 2 + name.size = q := ⟨_, rfl⟩
  rw [hs] at hsz HPRE hat0 hat1 hat2 hat3 HNAM HEX ⊢
  rw [hp] at hsz HPRE hat0 hat1 hat2 hat3 HNAM HEX lp
  rw [hq] at hat2 hat3 HNAM HEX
  have hpq : p + 2 < q := by omega
  have hqs : q + 1 < s.size := by omega
  have hss : s.size ≤ 400 := by omega
  have hp0 : p < s.size := by omega
  have hp1 : p + 1 < s.size := by omega
  have hq0 : q < s.size := by omega
  clear hsz hs hq hp h
  have i0 : (((s[p]'hp0).toNat : Int) == 37) = true := by rw [bt_get s p hp0, hat0]; rfl
  have i1 : (((s[p + 1]'hp1).toNat : Int) == 40) = true := by rw [bt_get s (p + 1) hp1, hat1]; rfl
  have i2 : (((s[q]'hq0).toNat : Int) == 41) = true := by rw [bt_get s q hq0, hat2]; rfl
  have i3 : (((s[q + 1]'hqs).toNat : Int) == 115) = true := by rw [bt_get s (q + 1) hqs, hat3]; rfl
  have j0 : (((s[p]'hp0).toNat : Int) != 37) = false := by rw [bne, i0]; rfl
  have j1 : (((s[p + 1]'hp1).toNat : Int) != 40) = false := by rw [bne, i1]; rfl
  have j2 : (((s[q]'hq0).toNat : Int) != 41) = false := by rw [bne, i2]; rfl
  clear hat0 hat1 hat2 hat3
  go_enter Tryz.func99, Tryz.ntmps99
  go_wp2
  go_loop [3] (fun i => ∃ k : Nat, k ≤ p ∧ i = .int .i64 k) (fun i => p - (intOf i).toNat)
  case atStart => exact ⟨0, Nat.zero_le _, rfl⟩
  case round =>
    obtain ⟨k, hk, rfl⟩ := hrel
    by_cases hlt : k < p
    · have hks : k < s.size := by omega
      have hne : ((s[k].toNat : Int) == 37) = false := beq_eq_false_iff_ne.2 (by rw [bt_get s k hks]; exact HPRE.out k hlt)
      have hne2 : ((s[k].toNat : Int) != 37) = true := by rw [bne, hne]; rfl
      clear i0 i1 i2 i3 j0 j1 j2
      go_wp2
      go_round
      case rel => exact ⟨k + 1, by omega, by go_num⟩
      case measure => simp [intOf]; omega
    · obtain rfl : k = p := by omega
      go_wp2
      go_loop [4] (fun e => ∃ m : Nat, k + 2 ≤ m ∧ m ≤ q ∧ e = .int .i64 m) (fun e => q - (intOf e).toNat)
      case atStart => exact ⟨k + 2, Nat.le_refl _, by omega, by go_num⟩
      case round =>
        obtain ⟨m, hm1, hm2, rfl⟩ := hrel
        by_cases hlt2 : m < q
        · have hms : m < s.size := by omega
          have hne : ((s[m].toNat : Int) == 41) = false := beq_eq_false_iff_ne.2 (by rw [bt_get s m hms]; exact HNAM.out m hm1 hlt2)
          have hne2 : ((s[m].toNat : Int) != 41) = true := by rw [bne, hne]; rfl
          clear i0 i1 i2 i3 j0 j1 j2
          go_wp2
          go_round
          case rel => exact ⟨m + 1, by omega, by omega, by go_num⟩
          case measure => simp [intOf]; omega
        · obtain rfl : m = q := by omega
          go_wp2
          go_ret
          exact ⟨by rw [← HEX.out]; rfl, rfl⟩

theorem ext_ne {s vr : ByteArray} {i m : Nat} {c : UInt8} {r : List UInt8} (hc : s.data.toList[i]? = some c) (h37 : c ≠ 37) (hv : vr.data.toList = 37 :: r) (_hm : 0 < m) : ((s.extract i (i + m)).toList == vr.toList) = false := by
  refine beq_eq_false_iff_ne.2 fun e => h37 ?_
  rw [ByteArray.toList_eq, ByteArray.toList_eq, hv, ByteArray.data_extract, Array.toList_extract, List.extract_eq_take_drop] at e
  have h1 := congrArg (fun z : List UInt8 => z[0]?) e
  have h2 : 0 < i + m - i := by omega
  simp only [List.getElem?_take, h2, if_true, List.getElem?_drop, Nat.add_zero, hc, List.getElem?_cons_zero] at h1
  exact Option.some.inj h1
theorem ext_one {s : ByteArray} {i : Nat} {c : UInt8} (hc : s.data.toList[i]? = some c) : (s.extract i (i + 1)).data.toList = [c] := by
  obtain ⟨hi, e⟩ := List.getElem?_eq_some_iff.1 hc
  rw [ByteArray.data_extract, Array.toList_extract, List.extract_eq_take_drop, List.drop_eq_getElem_cons hi, e, show i + 1 - i = 1 by omega]
  rfl

/-- Where zzReplaceAll stands. -/
def RepAt (pre name post other : ByteArray) (i : Nat) (out : ByteArray) : Prop :=
  (i ≤ pre.size ∧ out.data.toList = pre.data.toList.take i) ∨ (∃ j, i = pre.size + (name.size + 4) + j ∧ j ≤ post.size ∧ out.data.toList = pre.data.toList ++ other.data.toList ++ post.data.toList.take j)
theorem RepAt.size {pre name post other out : ByteArray} {i : Nat} (h : RepAt pre name post other i out) : out.size ≤ pre.size + other.size + post.size ∧ i ≤ (valT pre name post).size := by
  rw [valT_size]
  rcases h with ⟨h1, h2⟩ | ⟨j, h1, h2, h3⟩
  · have := congrArg List.length h2
    rw [toList_length, List.length_take, toList_length] at this
    omega
  · have := congrArg List.length h3
    simp only [List.length_append, toList_length, List.length_take] at this
    omega
/-- The text with the other one in its place. -/
def resT (pre other post : ByteArray) : ByteArray := pre ++ other ++ post
theorem RepAt.step {pre name post other out : ByteArray} {i : Nat} (h : RepAt pre name post other i out) (hi : i < (valT pre name post).size) (hp : i ≠ pre.size) (hs : SubIn pre name post) :
    ∃ c, (valT pre name post).data.toList[i]? = some c ∧ c ≠ 37 ∧ RepAt pre name post other (i + 1) (out ++ (valT pre name post).extract i (i + 1)) := by
  have ne37 : ∀ (x : ByteArray) (k : Nat) (c : UInt8), (∀ i, i < x.size → bt x i ≠ 37) → x.data.toList[k]? = some c → c ≠ 37 := fun x k c hx hc e => by
    subst e
    have hk : k < x.size := by have := (List.getElem?_eq_some_iff.1 hc).1; rwa [toList_length] at this
    exact hx k hk (bt_at hc)
  rcases h with ⟨h1, h2⟩ | ⟨j, h1, h2, h3⟩
  · have hlt : i < pre.size := by omega
    have hc : pre.data.toList[i]? = some (pre.data.toList[i]'(by rw [toList_length]; exact hlt)) := List.getElem?_eq_getElem _
    have hv := (valT_pre (name := name) (post := post) hlt).trans hc
    refine ⟨_, hv, ne37 pre i _ hs.fpre hc, .inl ⟨by omega, ?_⟩⟩
    rw [app_list, h2, ext_one hv, List.take_succ_eq_append_getElem (by rw [toList_length]; exact hlt)]
  · rw [valT_size] at hi
    have hlt : j < post.size := by omega
    have hc : post.data.toList[j]? = some (post.data.toList[j]'(by rw [toList_length]; exact hlt)) := List.getElem?_eq_getElem _
    have hv := (valT_post (pre := pre) (name := name)).trans hc
    rw [← h1] at hv
    refine ⟨_, hv, ne37 post j _ hs.fpost hc, .inr ⟨j + 1, by omega, by omega, ?_⟩⟩
    rw [app_list, h3, ext_one hv, List.take_succ_eq_append_getElem (by rw [toList_length]; exact hlt)]
    simp

set_option maxRecDepth 100000 in
set_option maxHeartbeats 2000000 in
theorem replaceAll_at (pre name post other : ByteArray) (w : World) (h : Hid (SubIn pre name post)) (ho : other.size ≤ 100) :
    Calls Tryz.prog 100 #[.string (valT pre name post), .string (vrT name), .string other] w fun e w' => e = .returned (.string (resT pre other post)) ∧ w = w' := by
  have hsz := valT_size pre name post
  have hvs := vrT_size name
  have lp := h.out.lp
  have ln := h.out.ln
  have lq := h.out.lq
  have hvl := vrT_list name
  have HST := Lib.hid (fun (i : Nat) (out : ByteArray) (hr : RepAt pre name post other i out) hi hp => hr.step hi hp h.out)
  have HVR := Lib.hid (valT_vr (pre := pre) (name := name) (post := post))
  have HRS := Lib.hid (fun (i : Nat) (out : ByteArray) (hr : RepAt pre name post other i out) => hr.size)
  obtain ⟨s, hs⟩ : ∃ s, valT pre name post = s := ⟨_, rfl⟩
  obtain ⟨vr, hvr⟩ : ∃ vr, vrT name = vr := ⟨_, rfl⟩
  rw [hs] at hsz HST HVR HRS ⊢
  rw [hvr] at hvs hvl HVR ⊢
  have HVL := Lib.hid hvl
  have HVS := Lib.hid hvs
  have s1 : s.size ≤ pre.size + (name.size + 4) + post.size := by omega
  have s2 : pre.size + (name.size + 4) + post.size ≤ s.size := by omega
  have v1 : vr.size ≤ name.size + 4 := by omega
  have v2 : name.size + 4 ≤ vr.size := by omega
  clear hvl hs hvr hvs hsz h
  go_enter Tryz.func100, Tryz.ntmps100
  go_wp2
  go_loop [7, 8] (fun s7 s8 => ∃ (i : Nat) (out : ByteArray), s8 = .int .i64 i ∧ s7 = .string out ∧ Hid (RepAt pre name post other i out)) (fun _ i => s.size - (intOf i).toNat)
  case atStart => exact ⟨0, _, rfl, rfl, .inl ⟨Nat.zero_le _, rfl⟩⟩
  case round =>
    obtain ⟨i, out, rfl, rfl, HR⟩ := hrel
    have hsr := HRS.out i out HR.out
    have hso := hsr.1
    have hsi := hsr.2
    clear hsr
    by_cases hlt : i < s.size
    · by_cases hip : i = pre.size
      · have hq : ((s.extract i (i + vr.size)).toList == vr.toList) = true := by
          rw [hip, HVS.out, show pre.size + (name.size + 4) = pre.size + 2 + name.size + 2 by omega, HVR.out]; simp
        have hguard : (i : Int) + (vr.size : Int) ≤ (s.size : Int) := by omega
        have HN : Hid (RepAt pre name post other (i + vr.size) (out ++ other)) := by
          rcases HR.out with ⟨h1, h2⟩ | ⟨j, h1, h2, h3⟩
          · refine .inr ⟨0, by omega, Nat.zero_le _, ?_⟩
            rw [app_list, h2, hip, List.take_of_length_le (by rw [toList_length]; exact Nat.le_refl _)]; simp
          · exfalso; omega
        clear hip
        go_wp2
        go_round
        case rel => exact ⟨i + vr.size, _, by go_num, rfl, HN⟩
        case measure => simp [intOf]; omega
      · obtain ⟨c, hc, h37, hr⟩ := HST.out i out HR.out hlt hip
        have HN := Lib.hid hr
        have hq : ((s.extract i (i + vr.size)).toList == vr.toList) = false := ext_ne hc h37 HVL.out (by omega)
        clear hc h37 hr hip
        by_cases hguard : (i : Int) + (vr.size : Int) ≤ (s.size : Int)
        all_goals
          go_wp2
          go_round
          case rel => exact ⟨i + 1, _, by go_num, rfl, HN⟩
          case measure => simp [intOf]; omega
    · have HE : Hid (out = resT pre other post) := by
        rcases HR.out with ⟨h1, h2⟩ | ⟨j, h1, h2, h3⟩
        · exfalso; omega
        · have hj : j = post.size := by omega
          subst hj
          exact (ba_ext (by show _ = (pre ++ other ++ post).data.toList; rw [h3, app_list, app_list, List.take_of_length_le (by rw [toList_length]; exact Nat.le_refl _)]) : out = _)
      go_wp2
      go_ret
      exact ⟨by rw [HE.out]; rfl, rfl⟩

theorem zzIndex_at (pre name post : ByteArray) (w : World) (h : Hid (SubIn pre name post)) :
    Calls Tryz.prog 101 #[.string (valT pre name post), .string ⟨#[37]⟩] w fun e w' => e = .returned (.int .i64 pre.size) ∧ w = w' := by
  have hsz := valT_size pre name post
  have lp := h.out.lp
  have ln := h.out.ln
  have lq := h.out.lq
  have h1 : (⟨#[37]⟩ : ByteArray).size = 1 := rfl
  refine zzIndex_some (valT pre name post) ⟨#[37]⟩ pre.size w (by omega) (by decide) (by omega) ?_ ?_
  · rw [h1]
    show ((valT pre name post).extract pre.size (pre.size + 1)).toList = (⟨#[37]⟩ : ByteArray).toList
    rw [ByteArray.toList_eq, ByteArray.toList_eq, ext_one valT_0]
  · intro i hi e
    rw [h1, ByteArray.toList_eq, ByteArray.toList_eq] at e
    have hc : pre.data.toList[i]? = some (pre.data.toList[i]'(by rw [toList_length]; exact hi)) := List.getElem?_eq_getElem _
    have hv := (valT_pre (name := name) (post := post) hi).trans hc
    rw [ext_one hv] at e
    have e2 : pre.data.toList[i]'(by rw [toList_length]; exact hi) = 37 := (List.cons.inj e).1
    rw [e2] at hc
    exact h.out.fpre i hi (bt_at hc)
end Go.Proofs.YtfnncdngfggcjaaGreatDoor
