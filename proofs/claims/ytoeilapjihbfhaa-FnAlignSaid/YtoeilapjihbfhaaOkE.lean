/- The walks of typeOk and TypesOk: some bool; if it is true, the types are as is spoken of. -/
import Derived.Test.YtoeilapjihbfhaaOkDa
import Derived.Test.YtoeilapjihbfhaaOkDb
import Derived.Test.YtoeilapjihbfhaaOkDc
namespace Go.Proofs.Ytoeilapjihbfhaa
open Go.RowKit

theorem kinds_are {k : Int} (h0 : 1 ≤ k) (h1 : k ≤ 19) (h2 : k ≠ 17) :
    k = 1 ∨ k = 2 ∨ k = 3 ∨ k = 4 ∨ k = 5 ∨ k = 6 ∨ k = 7 ∨ k = 8 ∨ k = 9 ∨ k = 10 ∨ k = 11 ∨ k = 12 ∨ k = 13 ∨ k = 14 ∨ k = 15 ∨ k = 16 ∨ k = 18 ∨ k = 19 := by omega

set_option maxRecDepth 100000 in
set_option maxHeartbeats 4000000 in
theorem type_calls (A : Option Addr) (c : Nat) (l : List Ty) (t : Ty) (At : Option Addr) (ct : Nat) (w : World) (h : Types w A l) (hm : Mems w At t.mem) (hn : t.name.size ≤ 9223372036854775807) :
    Calls Try.prog 9 #[.slice A l.length c, tyV t At ct] w (TPost l.length t w) := by
  obtain ⟨kind, nm, size, enc, flag, of, idx, mem⟩ := t
  by_cases h0 : 1 ≤ kind ∧ kind ≤ 19 ∧ kind ≠ 17
  · rcases kinds_are h0.1 h0.2.1 h0.2.2 with rfl | rfl | rfl | rfl | rfl | rfl | rfl | rfl | rfl | rfl | rfl | rfl | rfl | rfl | rfl | rfl | rfl | rfl
    · exact type_1 A c l nm size enc flag of idx mem At ct w h hm hn
    · exact type_2 A c l nm size enc flag of idx mem At ct w h hm hn
    · exact type_3 A c l nm size enc flag of idx mem At ct w h hm hn
    · exact type_4 A c l nm size enc flag of idx mem At ct w h hm hn
    · exact type_5 A c l nm size enc flag of idx mem At ct w h hm hn
    · exact type_6 A c l nm size enc flag of idx mem At ct w h hm hn
    · exact type_7 A c l nm size enc flag of idx mem At ct w h hm hn
    · exact type_8 A c l nm size enc flag of idx mem At ct w h hm hn
    · exact type_9 A c l nm size enc flag of idx mem At ct w h hm hn
    · exact type_10 A c l nm size enc flag of idx mem At ct w h hm hn
    · exact type_11 A c l nm size enc flag of idx mem At ct w h hm hn
    · exact type_12 A c l nm size enc flag of idx mem At ct w h hm hn
    · exact type_13 A c l nm size enc flag of idx mem At ct w h hm hn
    · exact type_14 A c l nm size enc flag of idx mem At ct w h hm hn
    · exact type_15 A c l nm size enc flag of idx mem At ct w h hm hn
    · exact type_16 A c l nm size enc flag of idx mem At ct w h hm hn
    · exact type_18 A c l nm size enc flag of idx mem At ct w h hm hn
    · exact type_19 A c l nm size enc flag of idx mem At ct w h hm hn
  · refine calls_ends fun P HP => ?_
    have hfin : ∀ o, Ends P (.returned (.bool false)) (w.alloc o) := fun o => HP.out _ _ ⟨false, rfl, fun hq => by simp at hq, box_below _ _⟩
    have HF := hid hfin
    clear hfin h hm hn
    by_cases h1 : kind < 1
    · clear h0
      go_enter Try.func9, Try.ntmps9
      go_wp2_with (go_at_call 15; refine (named_calls _ _).mono ?_; rintro e w' ⟨rfl, rfl⟩)
      go_ret
      exact HF.out _
    · by_cases h2 : 19 < kind
      · clear h0
        go_enter Try.func9, Try.ntmps9
        go_wp2_with (go_at_call 15; refine (named_calls _ _).mono ?_; rintro e w' ⟨rfl, rfl⟩)
        go_ret
        exact HF.out _
      · obtain rfl : kind = 17 := by omega
        clear h0 h1 h2
        go_enter Try.func9, Try.ntmps9
        go_wp2_with (go_at_call 15; refine (named_calls _ _).mono ?_; rintro e w' ⟨rfl, rfl⟩)
        go_ret
        exact HF.out _

/-- Types of which is spoken. -/
structure LOk (l : List Ty) : Prop where
  len : l.length ≤ 30
  all : ∀ j, j < l.length → TOk l.length (nthT l j)

def LPost (l : List Ty) (w : World) (e : Ending) (w' : World) : Prop := ∃ b, e = .returned (.bool b) ∧ (b = true → LOk l) ∧ Below w.heap.size w w'

set_option maxHeartbeats 1000000 in
theorem types_calls (A : Option Addr) (c : Nat) (l : List Ty) (w : World) (h : Types w A l) : Calls Try.prog 5 #[.slice A l.length c] w (LPost l w) := by
  have hl := h.len
  have H := hid h
  clear h
  refine calls_ends fun P HP => ?_
  by_cases hc : 30 < (l.length : Int)
  · have hc' : decide (30 < (l.length : Int)) = true := by simpa using hc
    go_enter Try.func5, Try.ntmps5
    go_wp2_with fail
    go_ret
    exact HP.out _ _ ⟨_, rfl, fun hq => by simp at hq, Below.refl _ _⟩
  · have hc' : decide (30 < (l.length : Int)) = false := by simpa using hc
    have HC := hid (show l.length ≤ 30 by omega)
    clear hc
    go_enter Try.func5, Try.ntmps5
    go_wp2_with fail
    go_loopg [10] l.length (fun gk i wr => ∃ k : Nat, k + gk = l.length ∧ i = .int .i64 k ∧ Hid (∀ j, j < k → TOk l.length (nthT l j)) ∧ Hid (Below w.heap.size w wr))
    case atStart => exact ⟨0, by simp, rfl, hid (fun j hj => absurd hj (Nat.not_lt_zero j)), hid (Below.refl _ _)⟩
    case round =>
      obtain ⟨k, hk, rfl, HO, HB⟩ := hrel
      have HK := hid hk
      clear hk
      by_cases hlt : k < l.length
      · obtain ⟨b, o, B, cc, rfl, hm⟩ := (H.out.below HB.out).at_ hlt
        have h0 := hm.c0
        have h1 := hm.c1
        have h2 := hm.c2
        have h3 := hm.c3
        have h4 := hm.c4
        have h5 := hm.c5
        have h6 := hm.c6
        have h7 := hm.c7
        have hsz := hm.sz
        have HM := hid hm.mem
        generalize hnt : nthT l k = t at *
        have HNT := hid hnt
        clear hm hnt
        go_wp2_with (go_at_call 9; refine (type_calls _ c l t B cc _ (H.out.below (below_alloc HB.out _)) (HM.out.below (box_below _ _)) hsz).mono ?_; rintro e w' ⟨bb, rfl, hbb, hb'⟩)
        · go_ret
          exact HP.out _ _ ⟨_, rfl, fun hq => by simp at hq, below_then (below_alloc HB.out _) hb'⟩
        · go_roundg (gk - 1)
          case measure => have := HK.out; omega
          case rel =>
            refine ⟨k + 1, by have := HK.out; omega, by go_num, hid fun j hj => ?_, hid (below_then (below_alloc HB.out _) hb')⟩
            rcases Nat.lt_succ_iff_lt_or_eq.1 hj with hj | rfl
            · exact HO.out j hj
            · rw [HNT.out]
              exact hbb (by simpa using ‹(!bb) = false›)
      · obtain rfl : gk = 0 := by have := HK.out; omega
        have HMS : Hid (LOk l) := ⟨HC.out, fun j hj => HO.out j (by have := HK.out; omega)⟩
        go_wp2_with fail
        go_ret
        exact HP.out _ _ ⟨_, rfl, fun _ => HMS.out, HB.out⟩

end Go.Proofs.Ytoeilapjihbfhaa
