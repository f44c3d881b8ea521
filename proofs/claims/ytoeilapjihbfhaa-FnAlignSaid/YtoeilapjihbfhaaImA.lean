/- The walks of impl.is32, of the closure of impl.fits, and of impl.fits: of types of which is spoken they answer true. -/
import Derived.Test.YtoeilapjihbfhaaOkE
namespace Go.Proofs.Ytoeilapjihbfhaa
open Go.RowKit

theorem is32_calls (n : Int) (w : World) (h0 : 0 ≤ n) (h1 : n ≤ 4294967295) : Calls Try.prog 37 #[.int .i64 n] w fun e w' => e = .returned (.bool true) ∧ w = w' := by
  go_enter Try.func37, Try.ntmps37
  go_wp2
  go_ret
  exact ⟨rfl, rfl⟩

theorem ref_calls (g : Nat) (A : Option Addr) (c : Nat) (l : List Ty) (n : Int) (w : World) (h : Types w A l) (hok : LOk l) (hg : w.cell? ⟨g, 0, none⟩ = some (.slice A l.length c)) (h0 : 0 ≤ n) (h1 : n ≤ l.length) :
    Calls Try.prog 36 #[.int .i64 n, .pointer (some ⟨g, 0, none⟩)] w fun e w' => e = .returned (.bool true) ∧ w = w' := by
  have hl := hok.len
  by_cases hz : n = 0
  · subst hz
    clear h hok
    go_enter Try.func36, Try.ntmps36
    go_wp2
    go_ret
    exact ⟨rfl, rfl⟩
  · obtain ⟨k, rfl⟩ : ∃ k : Nat, n = k + 1 := ⟨(n - 1).toNat, by omega⟩
    have hk : k < l.length := by omega
    obtain ⟨b, o, B, cc, rfl, hm⟩ := h.at_ hk
    have hc := hm.c0
    have h17 : ((nthT l k).kind != 17) = true := by simpa using (hok.all k hk).k17
    generalize nthT l k = t at *
    have hz' : ((k : Int) + 1 == 0) = false := by simpa using hz
    clear hm h hok hz
    go_enter Try.func36, Try.ntmps36
    go_wp2
    go_ret
    exact ⟨rfl, rfl⟩

set_option maxRecDepth 100000 in
set_option maxHeartbeats 4000000 in
theorem fits_calls (A : Option Addr) (c : Nat) (l : List Ty) (t : Ty) (At : Option Addr) (ct : Nat) (w : World) (h : Types w A l) (hok : LOk l) (hm : Mems w At t.mem) (ht : TOk l.length t) :
    Calls Try.prog 26 #[tyV t At ct, .slice A l.length c] w fun e w' => e = .returned (.bool true) ∧ Below w.heap.size w w' := by
  obtain ⟨kind, nm, size, enc, flag, of, idx, mem⟩ := t
  have hl := hok.len
  have hml := hm.len
  have hk0 := ht.k0
  have hk1 := ht.k1
  have ho0 := ht.of0
  have ho1 := ht.of1
  have hi0 := ht.idx0
  have hi1 := ht.idx1
  have he0 := ht.enc0
  have he1 := ht.enc1
  have hs0 := ht.sz0
  have hs1 := ht.sz1
  have hf0 := ht.d.fl0
  have hf1 := ht.d.fl1
  have HMO := hid ht.d.mems
  have H := hid h
  have HM := hid hm
  have HOK := hid hok
  clear h hm ht hok
  dsimp only at *
  go_enter Try.func26, Try.ntmps26
  go_wp2_with (first
    | (go_at_call 37; refine (is32_calls _ _ (by omega) (by omega)).mono ?_; rintro e w' ⟨rfl, rfl⟩)
    | (go_at_call 36; refine (ref_calls _ A c l _ _ (H.out.below (below_alloc (box_below _ _) _)) HOK.out (by simp) (by omega) (by omega)).mono ?_; rintro e w' ⟨rfl, rfl⟩))
  go_loopg [60] mem.length (fun gk i wr => ∃ k : Nat, k + gk = mem.length ∧ i = .int .i64 k ∧
    Hid (Below ((w.alloc (.cells (tyCells ⟨kind, nm, size, enc, flag, of, idx, mem⟩ At ct) 30)).alloc (.cells #[.slice A l.length c] 22)).heap.size ((w.alloc (.cells (tyCells ⟨kind, nm, size, enc, flag, of, idx, mem⟩ At ct) 30)).alloc (.cells #[.slice A l.length c] 22)) wr))
  case atStart => exact ⟨0, by simp, rfl, hid (Below.refl _ _)⟩
  case round =>
    obtain ⟨k, hk, rfl, HB⟩ := hrel
    have HK := hid hk
    have HW := hid (below_then (below_alloc (box_below w _) _) HB.out)
    clear hk
    by_cases hlt : k < mem.length
    · obtain ⟨b, o, rfl, hmb⟩ := (HM.out.below HW.out).at_ hlt
      have hmo := HMO.out k hlt
      have h0 := hmb.c0
      have h1 := hmb.c1
      have h2 := hmb.c2
      have h3 := hmb.c3
      have h4 := hmb.c4
      generalize hnm : nthM mem k = m at *
      have g0 := hmo.of0
      have g1 := hmo.of1
      have g2 := hmo.off0
      have g3 := hmo.off1
      have g4 := hmo.bits0
      have g5 := hmo.bits1
      clear hmb hnm hmo
      have HG : Hid (∀ o', (wr.alloc o').cell? ⟨w.heap.size + 1, 0, none⟩ = some (.slice A l.length c)) := fun o' => keep_cell (box_below _ _) (keep_cell HB.out (by simp))
      go_wp2_with (first
        | (go_at_call 37; refine (is32_calls _ _ (by omega) (by omega)).mono ?_; rintro e w' ⟨rfl, rfl⟩)
        | (go_at_call 36; refine (ref_calls _ A c l _ _ (H.out.below (below_alloc HW.out _)) HOK.out (HG.out _) (by omega) (by omega)).mono ?_; rintro e w' ⟨rfl, rfl⟩))
      go_roundg (gk - 1)
      case measure => have := HK.out; omega
      case rel => exact ⟨k + 1, by have := HK.out; omega, by go_num, hid (HB.out.alloc HB.out.size _)⟩
    · obtain rfl : gk = 0 := by have := HK.out; omega
      go_wp2_with fail
      go_ret
      exact ⟨rfl, HW.out⟩
end Go.Proofs.Ytoeilapjihbfhaa
