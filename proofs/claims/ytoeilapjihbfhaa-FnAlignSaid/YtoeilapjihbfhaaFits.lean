/- The walks of the size checks zzFits1 to zzFits4: each hands back some bool, and what was there stays. -/
import Derived.Test.YtoeilapjihbfhaaData
import Derived.Deep.LoopGhost
import Derived.Deep.DeepCutAuto
namespace Go.Proofs.Ytoeilapjihbfhaa
open Go.RowKit

set_option maxHeartbeats 400000 in
theorem zz4 (m : Mb) (w : World) : Calls Try.prog 24 #[mbV m] w (SomeBool w) := by
  go_enter Try.func24, Try.ntmps24
  go_wp2
  all_goals
    go_ret
    exact ⟨_, rfl, below_alloc (Below.refl _ _) _⟩

set_option maxHeartbeats 400000 in
theorem zz3 (A : Option Addr) (c : Nat) (ms : List Mb) (w : World) (h : Mems w A ms) : Calls Try.prog 14 #[.slice A ms.length c] w (SomeBool w) := by
  have hl := h.len
  have H := hid h
  clear h
  by_cases hc : 2147483647 < (ms.length : Int)
  · have hc' : decide (2147483647 < (ms.length : Int)) = true := by simpa using hc
    go_enter Try.func14, Try.ntmps14
    go_wp2_with fail
    go_ret
    exact ⟨_, rfl, Below.refl _ _⟩
  · have hc' : decide (2147483647 < (ms.length : Int)) = false := by simpa using hc
    clear hc
    go_enter Try.func14, Try.ntmps14
    go_wp2_with fail
    go_loopg [10] ms.length (fun gk i wr => ∃ k : Nat, k + gk = ms.length ∧ i = .int .i64 k ∧ Hid (Below w.heap.size w wr))
    case atStart => exact ⟨0, by simp, rfl, hid (Below.refl _ _)⟩
    case round =>
      obtain ⟨k, hk, rfl, HB⟩ := hrel
      have HK := hid hk
      clear hk
      by_cases hlt : k < ms.length
      · obtain ⟨b, o, rfl, hm⟩ := (H.out.below HB.out).at_ hlt
        have h0 := hm.c0
        have h1 := hm.c1
        have h2 := hm.c2
        have h3 := hm.c3
        have h4 := hm.c4
        generalize nthM ms k = m at *
        clear hm
        go_wp2_with (go_at_call 24; refine (zz4 m _).mono ?_; rintro e w' ⟨bb, rfl, hb'⟩)
        · go_ret
          exact ⟨_, rfl, below_then (below_alloc HB.out _) hb'⟩
        · go_roundg (gk - 1)
          case measure => have := HK.out; omega
          case rel => exact ⟨k + 1, by have := HK.out; omega, by go_num, hid (below_then (below_alloc HB.out _) hb')⟩
      · have hk0 : gk = 0 := by have := HK.out; omega
        go_wp2_with fail
        go_ret
        exact ⟨_, rfl, HB.out⟩


set_option maxHeartbeats 400000 in
theorem zz2 (t : Ty) (A : Option Addr) (c : Nat) (w : World) (h : Mems w A t.mem) : Calls Try.prog 8 #[tyV t A c] w (SomeBool w) := by
  have hal := below_alloc (Below.refl w.heap.size w) (.cells (tyCells t A c) 30)
  have H := hid (h.below hal)
  have HL := hid hal
  clear h hal
  by_cases hc : 2147483647 < (t.name.size : Int)
  · have hc' : decide (2147483647 < (t.name.size : Int)) = true := by simpa using hc
    go_enter Try.func8, Try.ntmps8
    go_wp2_with fail
    go_ret
    exact ⟨_, rfl, HL.out⟩
  · have hc' : decide (2147483647 < (t.name.size : Int)) = false := by simpa using hc
    clear hc
    go_enter Try.func8, Try.ntmps8
    go_wp2_with (go_at_call 14; refine (zz3 A c t.mem _ H.out).mono ?_; rintro e w' ⟨bb, rfl, hb'⟩)
    all_goals
      go_ret
      exact ⟨_, rfl, below_then HL.out hb'⟩

set_option maxHeartbeats 400000 in
theorem zz1 (A : Option Addr) (c : Nat) (l : List Ty) (w : World) (h : Types w A l) : Calls Try.prog 4 #[.slice A l.length c] w (SomeBool w) := by
  have hl := h.len
  have H := hid h
  clear h
  by_cases hc : 2147483647 < (l.length : Int)
  · have hc' : decide (2147483647 < (l.length : Int)) = true := by simpa using hc
    go_enter Try.func4, Try.ntmps4
    go_wp2_with fail
    go_ret
    exact ⟨_, rfl, Below.refl _ _⟩
  · have hc' : decide (2147483647 < (l.length : Int)) = false := by simpa using hc
    clear hc
    go_enter Try.func4, Try.ntmps4
    go_wp2_with fail
    go_loopg [10] l.length (fun gk i wr => ∃ k : Nat, k + gk = l.length ∧ i = .int .i64 k ∧ Hid (Below w.heap.size w wr))
    case atStart => exact ⟨0, by simp, rfl, hid (Below.refl _ _)⟩
    case round =>
      obtain ⟨k, hk, rfl, HB⟩ := hrel
      have HK := hid hk
      clear hk
      by_cases hlt : k < l.length
      · obtain ⟨b, o, B, cc, rfl, hm⟩ := (H.out.below HB.out).at_ hlt
        have h0 := hm.c0
        have h1 := hm.c1
        have h2 := hm.c2
        have h3 := hm.c3
        have h4 := hm.c4
        have h5 := hm.c5
        have h6 := hm.c6
        have h7 := hm.c7
        generalize nthT l k = t at *
        have HM := hid (hm.mem.below (below_alloc (Below.refl _ _) (.cells (tyCells t B cc) 30)))
        clear hm
        go_wp2_with (go_at_call 8; refine (zz2 t B cc _ HM.out).mono ?_; rintro e w' ⟨bb, rfl, hb'⟩)
        · go_ret
          exact ⟨_, rfl, below_then (below_alloc HB.out _) hb'⟩
        · go_roundg (gk - 1)
          case measure => have := HK.out; omega
          case rel => exact ⟨k + 1, by have := HK.out; omega, by go_num, hid (below_then (below_alloc HB.out _) hb')⟩
      · have hk0 : gk = 0 := by have := HK.out; omega
        go_wp2_with fail
        go_ret
        exact ⟨_, rfl, HB.out⟩

end Go.Proofs.Ytoeilapjihbfhaa
