/- Contract of NewKey over FileOK, at a key that is not there. -/
import Derived.Test.YtfnncdngfggcjaaGreatDoorPar2
namespace Go.Proofs.YtfnncdngfggcjaaGreatDoor
open Go.RowKit

theorem newKey_file (B : Nat) (own : Nat → Nat) (fb mb : Nat) (sh : Bool) (σ : List SecA) (dsv slv siv : Value) (i : Nat) (s : SecA) (name val : ByteArray) (w : World) (hF : FileOK B own w fb sh σ dsv slv siv mb) (hi : σ[i]? = some s) (hn : 0 < name.size)
    (hok : okKey sh s.view.2 name val) :
    Calls Tryz.prog 79 #[ptr s.sb, .string name, .string val] w fun e w' => KeyDone B fb sh (viewOf σ) i s.sb dsv mb name val w e w' := by
  have hlen : s.keys.length ≤ 1000 := by have := hok.1; unfold SecA.view at this; rwa [List.length_map] at this
  have h := hok.2
  rw [s.view_names] at h
  exact newKey_fresh B own fb mb sh σ dsv slv siv i s name val w hF hi hn h hlen
end Go.Proofs.YtfnncdngfggcjaaGreatDoor
