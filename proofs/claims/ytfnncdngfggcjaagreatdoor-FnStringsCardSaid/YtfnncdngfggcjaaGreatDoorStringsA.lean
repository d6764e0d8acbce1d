/- FnStrings: what its walk gives, in the row's words. -/
import Derived.Test.YtfnncdngfggcjaaGreatDoorSt5
import Derived.Test.YtfnncdngfggcjaaGreatDoorTrA
import Derived.Test.YtfnncdngfggcjaaGreatDoorGl5
import Derived.Test.YtfnncdngfggcjaaGreatDoorSb
namespace Go.Proofs.YtfnncdngfggcjaaGreatDoor
open Go.ChangeShapes Go.WideShapes Go.ChangeAt Go.RowKit Go.ChangeMaps

set_option maxRecDepth 100000 in
theorem contractStrings (H : Type) (enc : TypeId × Value → H) (W : World) (base : Nat) (args : Array Value) (ds gs : List (DataW H)) (before : List MemPlace)
    (hval : ∀ (j : Nat) t v, Tryz.f14.params[j]? = some t → args[j]? = some v → Value.okWide Tryz.prog W .any base t v)
    (hW : DataW.Whole enc Tryz.prog Tryz.f14.params.toList Rows.fnStringsSpec.vars false W args.toList ds gs before) (hL : laidMetH Tryz.prog Rows.fnStringsRow.laid W) :
    Calls Tryz.prog 14 args W fun e W' => ∃ v, e = .returned v ∧ Rows.fnStringsSpec.post enc Tryz.prog Tryz.f14 false true false false W args v W' := by
  have hW' := hW
  obtain ⟨p, q, hA0, hV, rfl, hfz, hnd⟩ := hW
  have hA : DataW.TrodAll enc Tryz.prog W 0 (fun _ => true) true Tryz.f14.params.toList args.toList ds p := hA0
  rw [Tryz.params14] at hA hval
  obtain ⟨v0, vs0, d0, ds0, p0, q0, hargs, rfl, rfl, h0, r0⟩ := trodAll_cons hA
  obtain ⟨v1, vs1, d1, ds1, p1, q1, rfl, rfl, rfl, h1, r1⟩ := trodAll_cons r0
  obtain ⟨rfl, rfl, rfl⟩ := trodAll_nil r1
  obtain rfl : args = #[v0, v1] := by cases args; simp_all
  obtain ⟨rfl, rfl⟩ := trodVars_none hV
  obtain ⟨l0, hl0, hll0⟩ := strsB_open h0 (hval 0 26 v0 rfl rfl)
  obtain ⟨a1, rfl, rfl, rfl⟩ := open_bool Tryz.underlying4 (hval 1 4 v1 rfl rfl) h1
  obtain ⟨⟨ea, fa, g⟩, ht⟩ := glob_of_laid5 hL
  refine (fnStrings_walk W.heap.size ea fa v0 l0 a1 W g ht rfl hl0 hll0).mono fun e W' ⟨he, hk⟩ => ?_
  subst he
  have hb := hk.out.below (Nat.le_refl _)
  have hlt0 : ∀ x ∈ p0, x.block < W.heap.size := fun x hx => by simpa using hW'.lt x (by simp [hx])
  exact ⟨_, rfl, post_below (pa := (p0 ++ ([] ++ []))) (pv := []) hW' (fun _ _ _ => trodAll_cons_mk (shut_bool Tryz.underlying4 _) trodAll_mk0)
    (fun sp hsp => (trodAll_cons_mk (Go.WideElems.Trod_stays laidOutTryz (by kernel_rfl) (of_decide_eq_true (by kernel_rfl)) h0 (fun x hx => hb.same (hlt0 x hx)) (fun x hx => hsp x (by simp [hx]))) (trodAll_cons_mk (shut_bool Tryz.underlying4 _) trodAll_mk0)))
    (fun _ _ => rfl) (by simp) hb (ok_one (by kernel_rfl) rfl (okWide_bool_mk Tryz.underlying4 _))⟩
end Go.Proofs.YtfnncdngfggcjaaGreatDoor
