/- The walk of laws.FnIn. -/
import Derived.Test.YtfnncdngfggcjaaGreatDoorIn1
namespace Go.Proofs.YtfnncdngfggcjaaGreatDoor
open Go.RowKit

theorem pickIn_take {l : List ByteArray} {s other : ByteArray} {k : Nat} (hk : k < l.length) (h : s ≠ l[k]) : pickIn (l.take (k + 1)) s other = pickIn (l.take k) s other := by
  have this : s ∈ l.take (k + 1) ↔ s ∈ l.take k := by
    rw [List.take_succ_eq_append_getElem hk, List.mem_append, List.mem_singleton]
    exact ⟨fun h' => h'.resolve_right h, .inl⟩
  by_cases hm : s ∈ l.take k
  · rw [pickIn_mem (this.2 hm), pickIn_mem hm]
  · rw [pickIn_not (fun h' => hm (this.1 h')), pickIn_not hm]
theorem pickIn_take_at {l : List ByteArray} {s other : ByteArray} {k : Nat} (hk : k < l.length) (h : s = l[k]) : pickIn (l.take (k + 1)) s other = s := by
  refine pickIn_at (k := k) (by simp; omega) ?_
  rw [List.getElem_take]; exact h

theorem isPlain_hid (s : ByteArray) (b : Bool) (h : isPlain s = b) (hs : s.size ≤ 140737488351232) :
    Hid (∀ w, Calls Tryz.prog 21 #[.string s] w fun e w' => e = .returned (.bool b) ∧ w = w') := fun w => by rw [← h]; exact isPlain_any s w hs

set_option maxRecDepth 100000 in
set_option maxHeartbeats 2000000 in
theorem fnIn_walk (B : Nat) (ea fa : Addr) (s other : ByteArray) (v : Value) (l : List ByteArray) (w : World) (g : Glob w B ea fa) (h : StrsB B w v l) (hl : l.length ≤ maxLen) :
    Calls Tryz.prog 13 #[.string s, .string other, v] w fun e w' => e = .returned (.bool true) ∧ Hid (Kept B w w') := by
  by_cases h1 : (2147483647 : Int) < (s.size : Int)
  · clear h g
    go_enter Tryz.func13, Tryz.ntmps13
    go_wp2
    go_ret
    exact ⟨rfl, Kept.refl B w⟩
  by_cases h2 : (2147483647 : Int) < (other.size : Int)
  · clear h g
    go_enter Tryz.func13, Tryz.ntmps13
    go_wp2
    go_ret
    exact ⟨rfl, Kept.refl B w⟩
  have HF0 := zzFits5_any B v l w h hl
  cases hf : fitsB l with
  | false =>
    rw [hf] at HF0
    have HF := Lib.hid HF0
    clear HF0 h g
    go_enter Tryz.func13, Tryz.ntmps13
    go_wp2_with (go_at_call 23; refine HF.out.mono ?_; rintro e w' ⟨rfl, rfl⟩)
    go_ret
    exact ⟨rfl, Kept.refl B w⟩
  | true =>
    rw [hf] at HF0
    have HF := Lib.hid HF0
    clear HF0
    cases hp : isPlain s with
    | false =>
      have HI := isPlain_hid s false hp (by omega)
      clear h g hf
      go_enter Tryz.func13, Tryz.ntmps13
      go_wp2_with (first | (go_at_call 23; refine HF.out.mono ?_; rintro e w' ⟨rfl, rfl⟩) | (go_at_call 21; (with_reducible refine (HI.out _).mono ?_); rintro e w' ⟨rfl, rfl⟩))
      go_ret
      exact ⟨rfl, Kept.refl B w⟩
    | true =>
      have HI := isPlain_hid s true hp (by omega)
      have HP := Lib.hid (plain_pct hp)
      have h60 := plain_size hp
      have hx := hf
      have HFA : Hid (∀ k (h : k < l.length), l[k].size ≤ 2147483647) := fun k hk => fitsB_at hx (List.getElem_mem hk)
      have hlen := fitsB_len hf
      have HG := Lib.hid g
      have HV := Lib.hid h
      clear hf hx g hp
      cases hq : isPlain other with
      | false =>
        have HO := isPlain_hid other false hq (by omega)
        clear h hq
        go_enter Tryz.func13, Tryz.ntmps13
        go_wp2_with (first
          | (go_at_call 23; refine HF.out.mono ?_; rintro e w' ⟨rfl, rfl⟩)
          | (go_at_call 21; (with_reducible refine (HI.out _).mono ?_); rintro e w' ⟨rfl, rfl⟩)
          | (go_at_call 21; (with_reducible refine (HO.out _).mono ?_); rintro e w' ⟨rfl, rfl⟩))
        go_ret
        exact ⟨rfl, Kept.refl B w⟩
      | true =>
        have HO := isPlain_hid other true hq (by omega)
        clear hq
        by_cases h20 : (20 : Int) < (l.length : Int)
        · rcases h with ⟨p, c, rfl, rfl⟩ | ⟨b, off, cap, rfl, h0, hcap, hbB, _, hc⟩
          · simp at h20
          · clear hc
            go_enter Tryz.func13, Tryz.ntmps13
            go_wp2_with (first
              | (go_at_call 23; refine HF.out.mono ?_; rintro e w' ⟨rfl, rfl⟩)
              | (go_at_call 21; (with_reducible refine (HI.out _).mono ?_); rintro e w' ⟨rfl, rfl⟩)
              | (go_at_call 21; (with_reducible refine (HO.out _).mono ?_); rintro e w' ⟨rfl, rfl⟩))
            go_ret
            exact ⟨rfl, Kept.refl B w⟩
        · have H32 := Lib.hid (in32_of B ea fa s other v l w HG.out (by omega) HP HV.out (by omega))
          rcases h with ⟨p, c, rfl, rfl⟩ | ⟨b, off, cap, rfl, h0, hcap, hbB, _, hc⟩
          · have hpn : Hid (pickIn [] s other = other) := pickIn_no (fun j h => absurd h (Nat.not_lt_zero _))
            rw [hpn.out] at H32
            go_enter Tryz.func13, Tryz.ntmps13
            go_wp2_with (first
              | (go_at_call 23; refine HF.out.mono ?_; rintro e w' ⟨rfl, rfl⟩)
              | (go_at_call 21; (with_reducible refine (HI.out _).mono ?_); rintro e w' ⟨rfl, rfl⟩)
              | (go_at_call 21; (with_reducible refine (HO.out _).mono ?_); rintro e w' ⟨rfl, rfl⟩))
            refine wp_loop_rounds 1 ?_
            rw [rounds_succ]
            go_wp2_with (go_at_call 32; refine H32.out.mono ?_; rintro e w' ⟨rfl, HK⟩)
            go_ret
            exact ⟨by simp, HK⟩
          · have HC := Lib.hid hc
            clear hc
            go_enter Tryz.func13, Tryz.ntmps13
            go_wp2_with (first
              | (go_at_call 23; refine HF.out.mono ?_; rintro e w' ⟨rfl, rfl⟩)
              | (go_at_call 21; (with_reducible refine (HI.out _).mono ?_); rintro e w' ⟨rfl, rfl⟩)
              | (go_at_call 21; (with_reducible refine (HO.out _).mono ?_); rintro e w' ⟨rfl, rfl⟩))
            go_loop [7, 39] (fun wt i => ∃ k : Nat, k ≤ l.length ∧ i = .int .i64 k ∧ ∃ r : ByteArray, wt = .string r ∧ Hid (r = pickIn (l.take k) s other)) (fun _ i => l.length - (intOf i).toNat)
            case atStart => exact ⟨0, Nat.zero_le _, rfl, other, rfl, (pickIn_no (fun j h => absurd h (by simp))).symm⟩
            case round =>
              obtain ⟨k, hk, rfl, r, rfl, hr⟩ := hrel
              by_cases hlt : k < l.length
              · have hcell := HC.out k hlt
                have hszk := HFA.out k hlt
                cases hpk : isPlain l[k] with
                | false =>
                  have HIk := isPlain_hid l[k] false hpk (by omega)
                  clear hpk
                  go_wp2_with (go_at_call 21; refine (HIk.out _).mono ?_; rintro e w' ⟨rfl, rfl⟩)
                  go_ret
                  exact ⟨rfl, Kept.refl B w⟩
                | true =>
                  have HIk := isPlain_hid l[k] true hpk (by omega)
                  clear hpk
                  by_cases heq : s = l[k]
                  · have hbq : (l[k].toList == s.toList) = true := by rw [heq]; simp
                    have hfin : Hid (s = pickIn (l.take (k + 1)) s other) := (pickIn_take_at hlt heq).symm
                    clear heq hr
                    go_wp2_with (go_at_call 21; refine (HIk.out _).mono ?_; rintro e w' ⟨rfl, rfl⟩)
                    go_round
                    case rel => exact ⟨k + 1, by omega, by go_num, s, rfl, hfin⟩
                    case measure => simp [intOf]; omega
                  · have hbq : (l[k].toList == s.toList) = false := beq_list (Ne.symm heq)
                    have hfin : Hid (r = pickIn (l.take (k + 1)) s other) := hr.out.trans (pickIn_take hlt heq).symm
                    clear heq hr
                    go_wp2_with (go_at_call 21; refine (HIk.out _).mono ?_; rintro e w' ⟨rfl, rfl⟩)
                    go_round
                    case rel => exact ⟨k + 1, by omega, by go_num, r, rfl, hfin⟩
                    case measure => simp [intOf]; omega
              · obtain rfl : k = l.length := by omega
                have hfin : Hid (pickIn l s other = r) := by
                  have := hr.out
                  rw [List.take_length] at this
                  exact this.symm
                rw [hfin.out] at H32
                clear hr
                go_wp2_with (go_at_call 32; refine H32.out.mono ?_; rintro e w' ⟨rfl, HK⟩)
                go_ret
                exact ⟨by simp, HK⟩
end Go.Proofs.YtfnncdngfggcjaaGreatDoor
