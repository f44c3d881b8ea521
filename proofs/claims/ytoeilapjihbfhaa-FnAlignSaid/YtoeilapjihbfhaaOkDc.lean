/- The walks of typeOk, a theorem for each kind: printed by the program gen_okd.py of this work. -/
import Derived.Test.YtoeilapjihbfhaaOkD
namespace Go.Proofs.Ytoeilapjihbfhaa
open Go.RowKit

set_option maxRecDepth 100000 in
set_option maxHeartbeats 4000000 in
theorem type_13 (A : Option Addr) (c : Nat) (l : List Ty) (nm : ByteArray) (size enc flag of idx : Int) (mem : List Mb) (At : Option Addr) (ct : Nat) (w : World) (h : Types w A l) (hm : Mems w At mem) (_hn : nm.size ≤ 9223372036854775807) :
    Calls Try.prog 9 #[.slice A l.length c, tyV ⟨13, nm, size, enc, flag, of, idx, mem⟩ At ct] w (TPost l.length ⟨13, nm, size, enc, flag, of, idx, mem⟩ w) := by
  have hl := h.len
  have hml := hm.len
  have H := hid h
  have HM := hid hm
  clear h hm
  refine calls_ends fun P HP => ?_
  go_enter Try.func9, Try.ntmps9
  go_wp2_with (first
    | (go_at_call 15; refine (named_calls _ _).mono ?_; rintro e w' ⟨rfl, rfl⟩; rw [show namedF 13 = -1 by decide])
    | (go_at_call 17; refine (composed_calls _ _).mono ?_; rintro e w' ⟨rfl, rfl⟩; rw [show composedF 13 = true by decide])
    | (go_at_call 18; refine (refers_calls _ _).mono ?_; rintro e w' ⟨rfl, rfl⟩; rw [show refersF 13 = false by decide])
    | (go_at_call 19; refine (sized_calls _ _).mono ?_; rintro e w' ⟨rfl, rfl⟩; rw [show sizedF 13 = false by decide])
    | (go_at_call 20; refine (details_calls A c l ⟨_, nm, _, _, _, _, _, mem⟩ At ct _ (H.out.below (box_below _ _)) (HM.out.below (box_below _ _))).mono ?_; rintro e w' ⟨bd, rfl, hbd, hb'⟩))
  all_goals
    go_ret
    refine HP.out _ _ ⟨_, rfl, fun hq => ?_, by first | exact box_below _ _ | exact below_then (box_below _ _) hb'⟩
    first
      | (exfalso; simp at hq; done)
      | exact tok_mk (dok_swap (hbd hq) (by first | rfl | omega | (simp only [bne_eq_false_iff_eq] at *; omega)) (by first | rfl | omega | (simp only [bne_eq_false_iff_eq] at *; omega))) (by omega) (by omega) (by omega) (by omega) (by first | omega | (simp only [bne_eq_false_iff_eq] at *; omega)) (by first | omega | (simp only [bne_eq_false_iff_eq] at *; omega))

set_option maxRecDepth 100000 in
set_option maxHeartbeats 4000000 in
theorem type_14 (A : Option Addr) (c : Nat) (l : List Ty) (nm : ByteArray) (size enc flag of idx : Int) (mem : List Mb) (At : Option Addr) (ct : Nat) (w : World) (h : Types w A l) (hm : Mems w At mem) (hn : nm.size ≤ 9223372036854775807) :
    Calls Try.prog 9 #[.slice A l.length c, tyV ⟨14, nm, size, enc, flag, of, idx, mem⟩ At ct] w (TPost l.length ⟨14, nm, size, enc, flag, of, idx, mem⟩ w) := by
  have hl := h.len
  have hml := hm.len
  have H := hid h
  have HM := hid hm
  clear h hm
  refine calls_ends fun P HP => ?_
  go_enter Try.func9, Try.ntmps9
  go_wp2_with (first
    | (go_at_call 15; refine (named_calls _ _).mono ?_; rintro e w' ⟨rfl, rfl⟩; rw [show namedF 14 = 1 by decide])
    | (go_at_call 16; refine (name_calls nm _ hn).mono ?_; rintro e w' ⟨bb, rfl, rfl⟩)
    | (go_at_call 17; refine (composed_calls _ _).mono ?_; rintro e w' ⟨rfl, rfl⟩; rw [show composedF 14 = false by decide])
    | (go_at_call 18; refine (refers_calls _ _).mono ?_; rintro e w' ⟨rfl, rfl⟩; rw [show refersF 14 = false by decide])
    | (go_at_call 19; refine (sized_calls _ _).mono ?_; rintro e w' ⟨rfl, rfl⟩; rw [show sizedF 14 = false by decide])
    | (go_at_call 20; refine (details_calls A c l ⟨_, nm, _, _, _, _, _, mem⟩ At ct _ (H.out.below (box_below _ _)) (HM.out.below (box_below _ _))).mono ?_; rintro e w' ⟨bd, rfl, hbd, hb'⟩))
  all_goals
    go_ret
    refine HP.out _ _ ⟨_, rfl, fun hq => ?_, by first | exact box_below _ _ | exact below_then (box_below _ _) hb'⟩
    first
      | (exfalso; simp at hq; done)
      | exact tok_mk (dok_swap (hbd hq) (by first | rfl | omega | (simp only [bne_eq_false_iff_eq] at *; omega)) (by first | rfl | omega | (simp only [bne_eq_false_iff_eq] at *; omega))) (by omega) (by omega) (by omega) (by omega) (by first | omega | (simp only [bne_eq_false_iff_eq] at *; omega)) (by first | omega | (simp only [bne_eq_false_iff_eq] at *; omega))

set_option maxRecDepth 100000 in
set_option maxHeartbeats 4000000 in
theorem type_15 (A : Option Addr) (c : Nat) (l : List Ty) (nm : ByteArray) (size enc flag of idx : Int) (mem : List Mb) (At : Option Addr) (ct : Nat) (w : World) (h : Types w A l) (hm : Mems w At mem) (hn : nm.size ≤ 9223372036854775807) :
    Calls Try.prog 9 #[.slice A l.length c, tyV ⟨15, nm, size, enc, flag, of, idx, mem⟩ At ct] w (TPost l.length ⟨15, nm, size, enc, flag, of, idx, mem⟩ w) := by
  have hl := h.len
  have hml := hm.len
  have H := hid h
  have HM := hid hm
  clear h hm
  refine calls_ends fun P HP => ?_
  go_enter Try.func9, Try.ntmps9
  go_wp2_with (first
    | (go_at_call 15; refine (named_calls _ _).mono ?_; rintro e w' ⟨rfl, rfl⟩; rw [show namedF 15 = 1 by decide])
    | (go_at_call 16; refine (name_calls nm _ hn).mono ?_; rintro e w' ⟨bb, rfl, rfl⟩)
    | (go_at_call 17; refine (composed_calls _ _).mono ?_; rintro e w' ⟨rfl, rfl⟩; rw [show composedF 15 = true by decide])
    | (go_at_call 18; refine (refers_calls _ _).mono ?_; rintro e w' ⟨rfl, rfl⟩; rw [show refersF 15 = false by decide])
    | (go_at_call 19; refine (sized_calls _ _).mono ?_; rintro e w' ⟨rfl, rfl⟩; rw [show sizedF 15 = true by decide])
    | (go_at_call 20; refine (details_calls A c l ⟨_, nm, _, _, _, _, _, mem⟩ At ct _ (H.out.below (box_below _ _)) (HM.out.below (box_below _ _))).mono ?_; rintro e w' ⟨bd, rfl, hbd, hb'⟩))
  all_goals
    go_ret
    refine HP.out _ _ ⟨_, rfl, fun hq => ?_, by first | exact box_below _ _ | exact below_then (box_below _ _) hb'⟩
    first
      | (exfalso; simp at hq; done)
      | exact tok_mk (dok_swap (hbd hq) (by first | rfl | omega | (simp only [bne_eq_false_iff_eq] at *; omega)) (by first | rfl | omega | (simp only [bne_eq_false_iff_eq] at *; omega))) (by omega) (by omega) (by omega) (by omega) (by first | omega | (simp only [bne_eq_false_iff_eq] at *; omega)) (by first | omega | (simp only [bne_eq_false_iff_eq] at *; omega))

set_option maxRecDepth 100000 in
set_option maxHeartbeats 4000000 in
theorem type_16 (A : Option Addr) (c : Nat) (l : List Ty) (nm : ByteArray) (size enc flag of idx : Int) (mem : List Mb) (At : Option Addr) (ct : Nat) (w : World) (h : Types w A l) (hm : Mems w At mem) (hn : nm.size ≤ 9223372036854775807) :
    Calls Try.prog 9 #[.slice A l.length c, tyV ⟨16, nm, size, enc, flag, of, idx, mem⟩ At ct] w (TPost l.length ⟨16, nm, size, enc, flag, of, idx, mem⟩ w) := by
  have hl := h.len
  have hml := hm.len
  have H := hid h
  have HM := hid hm
  clear h hm
  refine calls_ends fun P HP => ?_
  go_enter Try.func9, Try.ntmps9
  go_wp2_with (first
    | (go_at_call 15; refine (named_calls _ _).mono ?_; rintro e w' ⟨rfl, rfl⟩; rw [show namedF 16 = 1 by decide])
    | (go_at_call 16; refine (name_calls nm _ hn).mono ?_; rintro e w' ⟨bb, rfl, rfl⟩)
    | (go_at_call 17; refine (composed_calls _ _).mono ?_; rintro e w' ⟨rfl, rfl⟩; rw [show composedF 16 = false by decide])
    | (go_at_call 18; refine (refers_calls _ _).mono ?_; rintro e w' ⟨rfl, rfl⟩; rw [show refersF 16 = false by decide])
    | (go_at_call 19; refine (sized_calls _ _).mono ?_; rintro e w' ⟨rfl, rfl⟩; rw [show sizedF 16 = true by decide])
    | (go_at_call 20; refine (details_calls A c l ⟨_, nm, _, _, _, _, _, mem⟩ At ct _ (H.out.below (box_below _ _)) (HM.out.below (box_below _ _))).mono ?_; rintro e w' ⟨bd, rfl, hbd, hb'⟩))
  all_goals
    go_ret
    refine HP.out _ _ ⟨_, rfl, fun hq => ?_, by first | exact box_below _ _ | exact below_then (box_below _ _) hb'⟩
    first
      | (exfalso; simp at hq; done)
      | exact tok_mk (dok_swap (hbd hq) (by first | rfl | omega | (simp only [bne_eq_false_iff_eq] at *; omega)) (by first | rfl | omega | (simp only [bne_eq_false_iff_eq] at *; omega))) (by omega) (by omega) (by omega) (by omega) (by first | omega | (simp only [bne_eq_false_iff_eq] at *; omega)) (by first | omega | (simp only [bne_eq_false_iff_eq] at *; omega))

set_option maxRecDepth 100000 in
set_option maxHeartbeats 4000000 in
theorem type_18 (A : Option Addr) (c : Nat) (l : List Ty) (nm : ByteArray) (size enc flag of idx : Int) (mem : List Mb) (At : Option Addr) (ct : Nat) (w : World) (h : Types w A l) (hm : Mems w At mem) (hn : nm.size ≤ 9223372036854775807) :
    Calls Try.prog 9 #[.slice A l.length c, tyV ⟨18, nm, size, enc, flag, of, idx, mem⟩ At ct] w (TPost l.length ⟨18, nm, size, enc, flag, of, idx, mem⟩ w) := by
  have hl := h.len
  have hml := hm.len
  have H := hid h
  have HM := hid hm
  clear h hm
  refine calls_ends fun P HP => ?_
  go_enter Try.func9, Try.ntmps9
  go_wp2_with (first
    | (go_at_call 15; refine (named_calls _ _).mono ?_; rintro e w' ⟨rfl, rfl⟩; rw [show namedF 18 = 1 by decide])
    | (go_at_call 16; refine (name_calls nm _ hn).mono ?_; rintro e w' ⟨bb, rfl, rfl⟩)
    | (go_at_call 17; refine (composed_calls _ _).mono ?_; rintro e w' ⟨rfl, rfl⟩; rw [show composedF 18 = false by decide])
    | (go_at_call 18; refine (refers_calls _ _).mono ?_; rintro e w' ⟨rfl, rfl⟩; rw [show refersF 18 = true by decide])
    | (go_at_call 19; refine (sized_calls _ _).mono ?_; rintro e w' ⟨rfl, rfl⟩; rw [show sizedF 18 = false by decide])
    | (go_at_call 20; refine (details_calls A c l ⟨_, nm, _, _, _, _, _, mem⟩ At ct _ (H.out.below (box_below _ _)) (HM.out.below (box_below _ _))).mono ?_; rintro e w' ⟨bd, rfl, hbd, hb'⟩))
  all_goals
    go_ret
    refine HP.out _ _ ⟨_, rfl, fun hq => ?_, by first | exact box_below _ _ | exact below_then (box_below _ _) hb'⟩
    first
      | (exfalso; simp at hq; done)
      | exact tok_mk (dok_swap (hbd hq) (by first | rfl | omega | (simp only [bne_eq_false_iff_eq] at *; omega)) (by first | rfl | omega | (simp only [bne_eq_false_iff_eq] at *; omega))) (by omega) (by omega) (by omega) (by omega) (by first | omega | (simp only [bne_eq_false_iff_eq] at *; omega)) (by first | omega | (simp only [bne_eq_false_iff_eq] at *; omega))

set_option maxRecDepth 100000 in
set_option maxHeartbeats 4000000 in
theorem type_19 (A : Option Addr) (c : Nat) (l : List Ty) (nm : ByteArray) (size enc flag of idx : Int) (mem : List Mb) (At : Option Addr) (ct : Nat) (w : World) (h : Types w A l) (hm : Mems w At mem) (hn : nm.size ≤ 9223372036854775807) :
    Calls Try.prog 9 #[.slice A l.length c, tyV ⟨19, nm, size, enc, flag, of, idx, mem⟩ At ct] w (TPost l.length ⟨19, nm, size, enc, flag, of, idx, mem⟩ w) := by
  have hl := h.len
  have hml := hm.len
  have H := hid h
  have HM := hid hm
  clear h hm
  refine calls_ends fun P HP => ?_
  go_enter Try.func9, Try.ntmps9
  go_wp2_with (first
    | (go_at_call 15; refine (named_calls _ _).mono ?_; rintro e w' ⟨rfl, rfl⟩; rw [show namedF 19 = 0 by decide])
    | (go_at_call 16; refine (name_calls nm _ hn).mono ?_; rintro e w' ⟨bb, rfl, rfl⟩)
    | (go_at_call 17; refine (composed_calls _ _).mono ?_; rintro e w' ⟨rfl, rfl⟩; rw [show composedF 19 = true by decide])
    | (go_at_call 18; refine (refers_calls _ _).mono ?_; rintro e w' ⟨rfl, rfl⟩; rw [show refersF 19 = false by decide])
    | (go_at_call 19; refine (sized_calls _ _).mono ?_; rintro e w' ⟨rfl, rfl⟩; rw [show sizedF 19 = true by decide])
    | (go_at_call 20; refine (details_calls A c l ⟨_, nm, _, _, _, _, _, mem⟩ At ct _ (H.out.below (box_below _ _)) (HM.out.below (box_below _ _))).mono ?_; rintro e w' ⟨bd, rfl, hbd, hb'⟩))
  all_goals
    go_ret
    refine HP.out _ _ ⟨_, rfl, fun hq => ?_, by first | exact box_below _ _ | exact below_then (box_below _ _) hb'⟩
    first
      | (exfalso; simp at hq; done)
      | exact tok_mk (dok_swap (hbd hq) (by first | rfl | omega | (simp only [bne_eq_false_iff_eq] at *; omega)) (by first | rfl | omega | (simp only [bne_eq_false_iff_eq] at *; omega))) (by omega) (by omega) (by omega) (by omega) (by first | omega | (simp only [bne_eq_false_iff_eq] at *; omega)) (by first | omega | (simp only [bne_eq_false_iff_eq] at *; omega))

end Go.Proofs.Ytoeilapjihbfhaa
