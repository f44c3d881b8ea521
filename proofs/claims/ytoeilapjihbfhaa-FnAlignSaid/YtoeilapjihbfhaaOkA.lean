/- The walks of valueOk and nameOk: each hands back some bool, and what was there stays. -/
import Derived.Test.YtoeilapjihbfhaaKinds
import Derived.BigGuardPart
namespace Go.Proofs.Ytoeilapjihbfhaa
open Go.RowKit

set_option maxHeartbeats 400000 in
theorem value_calls (t : Ty) (A : Option Addr) (c : Nat) (v : Int) (w : World) : Calls Try.prog 35 #[tyV t A c, .int .i64 v] w (SomeBool w) := by
  go_enter Try.func35, Try.ntmps35
  go_wp2
  all_goals
    go_ret
    exact ⟨_, rfl, below_alloc (Below.refl _ _) _⟩

set_option maxHeartbeats 1000000 in
theorem name_calls (s : ByteArray) (w : World) (hs : s.size ≤ 9223372036854775807) : Calls Try.prog 16 #[.string s] w (SameBool w) := by
  go_enter Try.func16, Try.ntmps16
  go_wp2_with fail
  go_loopg [3, 4] s.size (fun gk st i wr => ∃ k : Nat, ∃ q : Int, k + gk = s.size ∧ i = .int .i64 k ∧ st = .int .i64 q ∧ w = wr)
  case atStart => exact ⟨0, 0, by simp, rfl, rfl, rfl⟩
  case round =>
    obtain ⟨k, q, hk, rfl, rfl, rfl⟩ := hrel
    have HK := hid hk
    clear hk
    by_cases hlt : k < s.size
    · go_wp2_with fail
      all_goals first
        | (go_ret; exact ⟨_, rfl, rfl⟩)
        | (go_roundg (gk - 1)
           case measure => have := HK.out; omega
           case rel => exact ⟨k + 1, _, by have := HK.out; omega, by go_num, rfl, rfl⟩)
    · have hk0 : gk = 0 := by have := HK.out; omega
      go_wp2_with fail
      all_goals
        go_ret
        exact ⟨_, rfl, rfl⟩
end Go.Proofs.Ytoeilapjihbfhaa
