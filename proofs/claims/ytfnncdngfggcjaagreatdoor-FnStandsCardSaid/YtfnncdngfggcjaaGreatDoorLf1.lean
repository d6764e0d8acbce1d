/- Contracts of leaves that the parser calls on one line of a text: IsSpace, DecodeRune, TrimLeftFunc, LastIndexByte, zzIndexAny, cleanComment, Buffer.String, Buffer.Reset. -/
import Derived.Test.YtfnncdngfggcjaaGreatDoorRdM
import Derived.Lib.OthersKept
import Derived.Laws.BytesArg
import Derived.Laws.RangeString
import Derived.Deep.LoopGhost
namespace Go.Proofs.YtfnncdngfggcjaaGreatDoor
open Go.RowKit

def isSpc (c : Int) : Bool := decide (9 ≤ c ∧ c ≤ 13 ∨ c = 32)

set_option maxHeartbeats 400000 in
theorem isSpace_any (c : Int) (w : World) (h0 : 0 ≤ c) (h1 : c < 128) :
    Calls Tryz.prog 112 #[.int .i32 c] w fun e w' => e = .returned (.bool (isSpc c)) ∧ w = w' := by
  go_enter Tryz.func112, Tryz.ntmps112
  go_wp2
  all_goals
    go_ret
    exact ⟨ret_bool (by unfold isSpc; rw [Bool.eq_iff_iff]; simp_all <;> omega), rfl⟩

set_option maxHeartbeats 400000 in
theorem decodeRune_ascii (b off n cap : Nat) (v : Int) (w : World) (hn : 0 < n) (h0 : 0 ≤ v) (h1 : v < 128) (hc : w.cell? ⟨b, off, none⟩ = some (.int .u8 v)) :
    Calls Tryz.prog 175 #[.slice (some ⟨b, off, none⟩) n cap] w fun e w' => e = .returned (.tuple #[.int .i32 v, .int .i64 1]) ∧ w = w' := by
  go_enter Tryz.func175, Tryz.ntmps175
  go_wp2
  refine wp_loop_rounds 1 ?_
  rw [rounds_succ]
  go_wp2
  go_ret2
  exact ⟨rfl, rfl⟩

set_option maxHeartbeats 400000 in
theorem indexFunc_first (b off n cap : Nat) (v : Int) (w : World) (hn : 0 < n) (hn2 : n ≤ 4096) (hcap : n ≤ cap) (h0 : 0 ≤ v) (h1 : v < 128) (hs : isSpc v = false) (hc : w.cell? ⟨b, off, none⟩ = some (.int .u8 v)) :
    Calls Tryz.prog 159 #[.slice (some ⟨b, off, none⟩) n cap, .func (.func 112) #[] #[], .bool false] w fun e w' => e = .returned (.int .i64 0) ∧ w = w' := by
  have HS : Hid (∀ w, Calls Tryz.prog 112 #[.int .i32 v] w fun e w' => e = .returned (.bool false) ∧ w = w') := fun w => by rw [← hs]; exact isSpace_any v w h0 h1
  have hcap0 : ¬ cap = 0 := by omega
  clear hs
  go_enter Tryz.func159, Tryz.ntmps159
  go_wp2
  refine wp_loop_rounds 1 ?_
  rw [rounds_succ]
  go_wp2_with (first
    | (go_at_call 175; refine (decodeRune_ascii b off n cap v _ hn h0 h1 hc).mono ?_; rintro e w' ⟨rfl, rfl⟩)
    | (go_at_call 112; refine (HS.out _).mono ?_; rintro e w' ⟨rfl, rfl⟩))
  go_ret
  exact ⟨rfl, rfl⟩

set_option maxHeartbeats 400000 in
/-- A line that begins with no blank. -/
theorem trimLeftB_first (b off n cap : Nat) (v : Int) (w : World) (hn : 0 < n) (hn2 : n ≤ 4096) (hcap : n ≤ cap) (h0 : 0 ≤ v) (h1 : v < 128) (hs : isSpc v = false) (hc : w.cell? ⟨b, off, none⟩ = some (.int .u8 v)) :
    Calls Tryz.prog 137 #[.slice (some ⟨b, off, none⟩) n cap, .func (.func 112) #[] #[]] w fun e w' => e = .returned (.slice (some ⟨b, off, none⟩) n cap) ∧ w = w' := by
  have HI := Lib.hid (indexFunc_first b off n cap v w hn hn2 hcap h0 h1 hs hc)
  have hcap0 : ¬ cap = 0 := by omega
  clear hs
  go_enter Tryz.func137, Tryz.ntmps137
  go_wp2_with (go_at_call 159; refine HI.out.mono ?_; rintro e w' ⟨rfl, rfl⟩)
  go_ret
  exact ⟨rfl, rfl⟩

set_option maxHeartbeats 400000 in
/-- The last ] of a section's line. -/
theorem lastIndexByte_close (b k cap : Nat) (w : World) (hk : k ≤ 4096) (h1 : w.cell? ⟨b, k + 1, none⟩ = some (.int .u8 10)) (h2 : w.cell? ⟨b, k, none⟩ = some (.int .u8 93)) :
    Calls Tryz.prog 139 #[.slice (some ⟨b, 0, none⟩) (k + 2) cap, .int .u8 93] w fun e w' => e = .returned (.int .i64 k) ∧ w = w' := by
  have e1 : IntKind.i64.wrap ((k : Int) + 2 - 1) = (k : Int) + 1 := by
    rw [show (k : Int) + 2 - 1 = (k : Int) + 1 by omega]; exact IntWalk.i64_in _ (by omega)
  have e3 : ((k : Int) + 1).toNat = k + 1 := by omega
  go_enter Tryz.func139, Tryz.ntmps139
  go_wp2
  refine wp_loop_rounds 2 ?_
  rw [rounds_succ]
  go_wp2
  rw [rounds_succ]
  go_wp2
  go_ret
  exact ⟨rfl, rfl⟩
end Go.Proofs.YtfnncdngfggcjaaGreatDoor
