/- FnStands: what its walk gives, in the row's words. -/
import Derived.Test.YtfnncdngfggcjaaGreatDoorSd5
import Derived.Test.YtfnncdngfggcjaaGreatDoorTrA
import Derived.Test.YtfnncdngfggcjaaGreatDoorGl5
namespace Go.Proofs.YtfnncdngfggcjaaGreatDoor
open Go.ChangeShapes Go.WideShapes Go.ChangeAt Go.RowKit Go.ChangeMaps

set_option maxRecDepth 100000 in
theorem contractStands (H : Type) (enc : TypeId × Value → H) (W : World) (base : Nat) (args : Array Value) (ds gs : List (DataW H)) (before : List MemPlace)
    (hval : ∀ (j : Nat) t v, Tryz.f11.params[j]? = some t → args[j]? = some v → Value.okWide Tryz.prog W .any base t v)
    (hW : DataW.Whole enc Tryz.prog Tryz.f11.params.toList Rows.fnStandsSpec.vars false W args.toList ds gs before) (hL : laidMetH Tryz.prog Rows.fnStandsRow.laid W) :
    Calls Tryz.prog 11 args W fun e W' => ∃ v, e = .returned v ∧ Rows.fnStandsSpec.post enc Tryz.prog Tryz.f11 false true false false W args v W' := by
  have hW' := hW
  obtain ⟨p, q, hA0, hV, rfl, hfz, hnd⟩ := hW
  have hA : DataW.TrodAll enc Tryz.prog W 0 (fun _ => true) true Tryz.f11.params.toList args.toList ds p := hA0
  rw [Tryz.params11] at hA hval
  obtain ⟨v0, vs0, d0, ds0, p0, q0, hargs, rfl, rfl, h0, r0⟩ := trodAll_cons hA
  obtain ⟨v1, vs1, d1, ds1, p1, q1, rfl, rfl, rfl, h1, r1⟩ := trodAll_cons r0
  obtain ⟨v2, vs2, d2, ds2, p2, q2, rfl, rfl, rfl, h2, r2⟩ := trodAll_cons r1
  obtain ⟨v3, vs3, d3, ds3, p3, q3, rfl, rfl, rfl, h3, r3⟩ := trodAll_cons r2
  obtain ⟨v4, vs4, d4, ds4, p4, q4, rfl, rfl, rfl, h4, r4⟩ := trodAll_cons r3
  obtain ⟨v5, vs5, d5, ds5, p5, q5, rfl, rfl, rfl, h5, r5⟩ := trodAll_cons r4
  obtain ⟨rfl, rfl, rfl⟩ := trodAll_nil r5
  obtain rfl : args = #[v0, v1, v2, v3, v4, v5] := by cases args; simp_all
  obtain ⟨rfl, rfl⟩ := trodVars_none hV
  obtain ⟨a0, rfl, rfl, rfl, z0⟩ := open_string Tryz.underlying9 (hval 0 9 v0 rfl rfl) h0
  obtain ⟨a1, rfl, rfl, rfl, z1⟩ := open_string Tryz.underlying9 (hval 1 9 v1 rfl rfl) h1
  obtain ⟨a2, rfl, rfl, rfl, z2⟩ := open_string Tryz.underlying9 (hval 2 9 v2 rfl rfl) h2
  obtain ⟨a3, rfl, rfl, rfl⟩ := open_bool Tryz.underlying4 (hval 3 4 v3 rfl rfl) h3
  obtain ⟨a4, rfl, rfl, rfl, z4⟩ := open_string Tryz.underlying9 (hval 4 9 v4 rfl rfl) h4
  obtain ⟨a5, rfl, rfl, rfl, z5⟩ := open_string Tryz.underlying9 (hval 5 9 v5 rfl rfl) h5
  clear hA0
  simp only [List.append_nil] at hW'
  obtain ⟨⟨ea, fa, g⟩, ht⟩ := glob_of_laid5 hL
  refine (fnStands_walk W.heap.size ea fa a0 a1 a2 a3 a4 a5 W g ht).mono fun e W' ⟨he, hk⟩ => ?_
  subst he
  have hb := hk.out.below (Nat.le_refl _)
  exact ⟨_, rfl, post_below (pa := []) (pv := []) hW' (fun _ _ _ => trodAll_cons_mk (shut_bool Tryz.underlying4 _) trodAll_mk0)
    (fun _ _ => (trodAll_cons_mk (shut_string Tryz.underlying9 z0) (trodAll_cons_mk (shut_string Tryz.underlying9 z1) (trodAll_cons_mk (shut_string Tryz.underlying9 z2) (trodAll_cons_mk (shut_bool Tryz.underlying4 _) (trodAll_cons_mk (shut_string Tryz.underlying9 z4) (trodAll_cons_mk (shut_string Tryz.underlying9 z5) trodAll_mk0)))))))
    (fun _ _ => rfl) rfl hb (ok_one (by kernel_rfl) rfl (okWide_bool_mk Tryz.underlying4 _))⟩
end Go.Proofs.YtfnncdngfggcjaaGreatDoor
