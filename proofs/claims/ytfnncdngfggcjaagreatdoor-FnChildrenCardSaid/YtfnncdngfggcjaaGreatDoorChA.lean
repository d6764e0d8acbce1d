/- FnChildren: what its walk gives, in the row's words. -/
import Derived.Test.YtfnncdngfggcjaaGreatDoorCh4
import Derived.Test.YtfnncdngfggcjaaGreatDoorTrA
import Derived.Test.YtfnncdngfggcjaaGreatDoorTrB
namespace Go.Proofs.YtfnncdngfggcjaaGreatDoor
open Go.ChangeShapes Go.WideShapes Go.ChangeAt Go.RowKit Go.ChangeMaps

theorem laidOutTryz : laidOutB Tryz.prog = true := by kernel_rfl
theorem cellsOf9 : Tryz.prog.cellsOf 9 = 1 := by kernel_rfl

set_option maxRecDepth 100000 in
/-- A slice of texts that is read, opened; and it reads the same behind what turned nothing of it. -/
theorem strsB_open {H : Type} {enc : TypeId × Value → H} {W : World} {v : Value} {d : DataW H} {p : List MemPlace} (h : DataW.Trod enc Tryz.prog W 0 (fun _ => true) true 26 v d p) (hv : Value.okWide Tryz.prog W .any 0 26 v) :
    ∃ l : List ByteArray, StrsB W.heap.size W v l ∧ l.length ≤ maxLen := by
  obtain ⟨a0, len0, cap0, rfl⟩ := okWide_slice Tryz.underlying26 hv
  obtain ⟨fuel, hf⟩ := h
  rcases open_strings Tryz.underlying26 Tryz.underlying9 cellsOf9 hf with ⟨hcs, hx⟩ | ⟨a, len, cap, ss, hcs, hb, hl, hm, hz, hx, hcell, hws⟩
  · simp [Value.cells] at hcs
    obtain ⟨rfl, rfl, rfl⟩ := hcs
    exact ⟨[], .inl ⟨none, 0, rfl, rfl⟩, by simp⟩
  · simp [Value.cells] at hcs
    obtain ⟨rfl, rfl, rfl⟩ := hcs
    have hlen : ss.length = cap0 := by simpa using hz
    by_cases h0 : len0 = 0
    · subst h0
      exact ⟨[], .inl ⟨_, _, rfl, rfl⟩, by simp⟩
    · have hp0 := hcell 0 (by omega)
      obtain ⟨b, off, spot⟩ := a
      have hspot : spot = none := by simpa [Addr.add] using World.cell?_spot hp0
      subst hspot
      have htl : (ss.take len0).length = len0 := by rw [List.length_take]; omega
      have hbw : b < W.heap.size := World.block_lt_of_cell? _ _ hp0
      refine ⟨ss.take len0, .inr ⟨b, off, cap0, by rw [htl], by omega, by omega, hbw, hbw, fun k hk => ?_⟩, by rw [htl]; omega⟩
      rw [htl] at hk
      have h1 := hcell k (by omega)
      rw [add_plain] at h1
      rw [h1, List.getElem_take, List.getD_eq_getElem?_getD, List.getElem?_eq_getElem (by omega)]
      rfl

set_option maxRecDepth 100000 in
theorem contractChildren (H : Type) (enc : TypeId × Value → H) (W : World) (base : Nat) (args : Array Value) (ds gs : List (DataW H)) (before : List MemPlace)
    (hval : ∀ (j : Nat) t v, Tryz.f5.params[j]? = some t → args[j]? = some v → Value.okWide Tryz.prog W .any base t v)
    (hW : DataW.Whole enc Tryz.prog Tryz.f5.params.toList Rows.fnChildrenSpec.vars false W args.toList ds gs before) (hL : laidMetH Tryz.prog Rows.fnChildrenRow.laid W) :
    Calls Tryz.prog 5 args W fun e W' => ∃ v, e = .returned v ∧ Rows.fnChildrenSpec.post enc Tryz.prog Tryz.f5 false true false false W args v W' := by
  have hW' := hW
  obtain ⟨p, q, hA0, hV, rfl, hfz, hnd⟩ := hW
  have hA : DataW.TrodAll enc Tryz.prog W 0 (fun _ => true) true Tryz.f5.params.toList args.toList ds p := hA0
  have hAA := hA
  rw [Tryz.params5] at hA hval
  obtain ⟨v0, vs0, d0, ds0, p0, q0, hargs, rfl, rfl, h0, r0⟩ := trodAll_cons hA
  obtain ⟨v1, vs1, d1, ds1, p1, q1, rfl, rfl, rfl, h1, r1⟩ := trodAll_cons r0
  obtain ⟨rfl, rfl, rfl⟩ := trodAll_nil r1
  obtain rfl : args = #[v0, v1] := by cases args; simp_all
  obtain ⟨rfl, rfl⟩ := trodVars_none hV
  obtain ⟨s, rfl, rfl, rfl, hsz⟩ := open_string Tryz.underlying9 (hval 0 9 v0 rfl rfl) h0
  obtain ⟨l, hl, hll⟩ := strsB_open h1 (hval 1 26 v1 rfl rfl)
  obtain ⟨ea, fa, g⟩ := glob_of_laid4 hL
  refine (fnChildren_walk W.heap.size ea fa s v1 l W g rfl hl hll).mono fun e W' ⟨he, hk⟩ => ?_
  subst he
  have hb := hk.out.below (Nat.le_refl _)
  have hlt : ∀ x ∈ p1, x.block < W.heap.size := fun x hx => by simpa using hW'.lt x (by simp [hx])
  exact ⟨_, rfl, post_below (pa := [] ++ (p1 ++ [])) (pv := []) hW' (fun _ _ _ => trodAll_cons_mk (shut_bool Tryz.underlying4 _) trodAll_mk0)
    (fun sp hsp => trodAll_cons_mk (shut_string Tryz.underlying9 hsz) (trodAll_cons_mk (Go.WideElems.Trod_stays laidOutTryz (by kernel_rfl) (of_decide_eq_true (by kernel_rfl)) h1 (fun x hx => hb.same (hlt x hx)) (fun x hx => hsp x (by simp [hx]))) trodAll_mk0))
    (fun _ _ => rfl) (by simp) hb (ok_one (by kernel_rfl) rfl (okWide_bool_mk Tryz.underlying4 _))⟩
end Go.Proofs.YtfnncdngfggcjaaGreatDoor
