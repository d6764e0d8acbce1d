/- Contracts of small functions that only compute: zzIndex at a text that does not hold the part; errors.New; spec.Truth and parseBool by their lists. -/
import Derived.Test.YtfnncdngfggcjaaGreatDoorPure1
import Derived.Handy
namespace Go.Proofs.YtfnncdngfggcjaaGreatDoor
open Go.RowKit

set_option maxHeartbeats 1000000 in
theorem zzIndex_none (s p : ByteArray) (w : World) (hs : s.size ≤ 140737488351232) (hp : p.size ≤ 140737488351232)
    (hno : Hid (∀ i, i + p.size ≤ s.size → (s.extract i (i + p.size)).toList ≠ p.toList)) :
    Calls Tryz.prog 101 #[.string s, .string p] w fun e w' => e = .returned (.int .i64 (-1)) ∧ w = w' := by
  go_enter Tryz.func101, Tryz.ntmps101
  go_wp2
  go_loop [5] (fun i => ∃ k : Nat, k ≤ s.size + 1 ∧ i = .int .i64 k) (fun i => s.size + 1 - (intOf i).toNat)
  case atStart => exact ⟨0, Nat.zero_le _, rfl⟩
  case round =>
    obtain ⟨k, hk, rfl⟩ := hrel
    by_cases hle : k + p.size ≤ s.size
    · have hne : ((s.extract k (k + p.size)).toList == p.toList) = false := beq_eq_false_iff_ne.2 (hno.out k hle)
      go_wp2
      go_round
      case rel => exact ⟨k + 1, by omega, by go_num⟩
      case measure => simp [intOf]; omega
    · go_wp2
      go_ret
      exact ⟨rfl, rfl⟩

set_option maxHeartbeats 1000000 in
theorem zzIndex_some (s p : ByteArray) (n : Nat) (w : World) (hs : s.size ≤ 140737488351232) (hp : p.size ≤ 140737488351232)
    (hn : n + p.size ≤ s.size) (hat : Hid ((s.extract n (n + p.size)).toList = p.toList))
    (hno : Hid (∀ i, i < n → (s.extract i (i + p.size)).toList ≠ p.toList)) :
    Calls Tryz.prog 101 #[.string s, .string p] w fun e w' => e = .returned (.int .i64 n) ∧ w = w' := by
  go_enter Tryz.func101, Tryz.ntmps101
  go_wp2
  go_loop [5] (fun i => ∃ k : Nat, k ≤ n ∧ i = .int .i64 k) (fun i => n - (intOf i).toNat)
  case atStart => exact ⟨0, Nat.zero_le _, rfl⟩
  case round =>
    obtain ⟨k, hk, rfl⟩ := hrel
    by_cases hlt : k < n
    · have hne : ((s.extract k (k + p.size)).toList == p.toList) = false := beq_eq_false_iff_ne.2 (hno.out k hlt)
      go_wp2
      go_round
      case rel => exact ⟨k + 1, by omega, by go_num⟩
      case measure => simp [intOf]; omega
    · obtain rfl : k = n := by omega
      have hne : ((s.extract k (k + p.size)).toList == p.toList) = true := by rw [hat.out]; simp
      go_wp2
      go_ret
      exact ⟨rfl, rfl⟩

theorem errorsNew_any (s : ByteArray) (w : World) :
    Calls Tryz.prog 67 #[.string s] w fun e w' => e = .returned (.iface 138 (.pointer (some ⟨w.heap.size, 0, none⟩))) ∧ w.alloc (.cells #[.string s] 140) = w' := by
  go_enter Tryz.func67, Tryz.ntmps67
  go_wp2
  go_ret
  exact ⟨rfl, rfl⟩

def yesWords : List (List UInt8) := [[49], [116], [84], [116, 114, 117, 101], [84, 82, 85, 69], [84, 114, 117, 101], [89, 69, 83], [121, 101, 115], [89, 101, 115], [121], [79, 78], [111, 110], [79, 110]]
def noWords : List (List UInt8) := [[48], [102], [70], [102, 97, 108, 115, 101], [70, 65, 76, 83, 69], [70, 97, 108, 115, 101], [78, 79], [110, 111], [78, 111], [110], [79, 70, 70], [111, 102, 102], [79, 102, 102]]

theorem ba_of_list {s : ByteArray} {l : List UInt8} (h : s.toList = l) : s = ⟨l.toArray⟩ := by
  rw [← h, ByteArray.toList_eq]
end Go.Proofs.YtfnncdngfggcjaaGreatDoor
