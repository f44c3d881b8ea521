/- The walk of UnderlyingType. -/
import Derived.Test.YtoeilapjihbfhaaUnA
namespace Go.Proofs.Ytoeilapjihbfhaa
open Go.RowKit
attribute [local go_sem] yes91 no91 noQ65 noQ69 noQ62 noQ91 isQ94 isQ97 isQ99 isQ121

set_option maxHeartbeats 4000000 in
theorem underlying_calls (a : Nat) (l : List Ty) (B : Nat → Nat) (j q r : Nat) (w : World) (hB : Built w a l B) (hj : j < l.length) (hr : r ≤ 30) (hC : Chain l (j + 1) (q + 1) r)
    (hq : (nthT l q).kind = 1 ∨ (nthT l q).kind = 3 ∨ (nthT l q).kind = 6 ∨ (nthT l q).kind = 19) :
    Calls Try.prog 31 #[.iface (tidOf (nthT l j).kind) (.pointer (some ⟨B j, 0, none⟩))] w fun e w' => e = .returned (.iface (tidOf (nthT l q).kind) (.pointer (some ⟨B q, 0, none⟩))) ∧ w = w' := by
  refine calls_ends fun P HP => ?_
  have H := hid hB
  have HQ := hid hq
  have HC := hid hC
  clear hB hq hC
  go_enter Try.func31, Try.ntmps31
  go_wp2_with fail
  go_loopg [3, 4] 33 (fun gk cur i wr => ∃ (k j r T : Nat), k + gk = 33 ∧ i = .int .i64 k ∧ cur = .iface T (.pointer (some ⟨B j, 0, none⟩)) ∧ wr = w ∧ j < l.length ∧ r + k ≤ 30 ∧ Hid (Chain l (j + 1) (q + 1) r) ∧ Hid (T = tidOf (nthT l j).kind))
  case atStart => exact ⟨0, j, r, _, by simp, rfl, rfl, rfl, hj, by omega, HC, hid rfl⟩
  case round =>
    obtain ⟨k, j1, r1, T, hk, rfl, rfl, rfl, hj1, hrk, HC1, HT⟩ := hrel
    have HK := hid hk
    clear hk
    have hklt : k ≤ 32 := by omega
    rcases linked_next H.out hj1 HC1.out with ⟨rfl, rfl⟩ | ⟨j', r', rfl, hj', hc', hcase⟩
    · rcases HQ.out with hkd | hkd | hkd | hkd
      · obtain rfl : T = 65 := by have := HT.out; rw [hkd] at this; exact this
        go_wp2_with fail
        go_ret
        exact HP.out _ _ ⟨by rw [hkd]; rfl, rfl⟩
      · obtain rfl : T = 69 := by have := HT.out; rw [hkd] at this; exact this
        go_wp2_with fail
        go_ret
        exact HP.out _ _ ⟨by rw [hkd]; rfl, rfl⟩
      · obtain rfl : T = 62 := by have := HT.out; rw [hkd] at this; exact this
        go_wp2_with fail
        go_ret
        exact HP.out _ _ ⟨by rw [hkd]; rfl, rfl⟩
      · obtain rfl : T = 62 := by have := HT.out; rw [hkd] at this; exact this
        go_wp2_with fail
        go_ret
        exact HP.out _ _ ⟨by rw [hkd]; rfl, rfl⟩
    · have HC' := hid hc'
      clear hc'
      rcases hcase with ⟨hkd, hcell⟩ | ⟨hkd | hkd | hkd | hkd, hcell⟩
      · obtain rfl : T = 91 := by have := HT.out; rw [hkd] at this; exact this
        go_wp2_with fail
        go_roundg (gk - 1)
        case measure => have := HK.out; omega
        case rel => exact ⟨k + 1, j', r', _, by have := HK.out; omega, by go_num, rfl, rfl, hj', by omega, HC', hid rfl⟩
      · obtain rfl : T = 94 := by have := HT.out; rw [hkd] at this; exact this
        go_wp2_with (go_at_call 76; refine (qual_76 _ _ _ hcell).mono ?_; rintro e w' ⟨rfl, rfl⟩)
        go_roundg (gk - 1)
        case measure => have := HK.out; omega
        case rel => exact ⟨k + 1, j', r', _, by have := HK.out; omega, by go_num, rfl, rfl, hj', by omega, HC', hid rfl⟩
      · obtain rfl : T = 97 := by have := HT.out; rw [hkd] at this; exact this
        go_wp2_with (go_at_call 79; refine (qual_79 _ _ _ hcell).mono ?_; rintro e w' ⟨rfl, rfl⟩)
        go_roundg (gk - 1)
        case measure => have := HK.out; omega
        case rel => exact ⟨k + 1, j', r', _, by have := HK.out; omega, by go_num, rfl, rfl, hj', by omega, HC', hid rfl⟩
      · obtain rfl : T = 99 := by have := HT.out; rw [hkd] at this; exact this
        go_wp2_with (go_at_call 82; refine (qual_82 _ _ _ hcell).mono ?_; rintro e w' ⟨rfl, rfl⟩)
        go_roundg (gk - 1)
        case measure => have := HK.out; omega
        case rel => exact ⟨k + 1, j', r', _, by have := HK.out; omega, by go_num, rfl, rfl, hj', by omega, HC', hid rfl⟩
      · obtain rfl : T = 121 := by have := HT.out; rw [hkd] at this; exact this
        go_wp2_with (go_at_call 97; refine (qual_97 _ _ _ hcell).mono ?_; rintro e w' ⟨rfl, rfl⟩)
        go_roundg (gk - 1)
        case measure => have := HK.out; omega
        case rel => exact ⟨k + 1, j', r', _, by have := HK.out; omega, by go_num, rfl, rfl, hj', by omega, HC', hid rfl⟩

end Go.Proofs.Ytoeilapjihbfhaa
