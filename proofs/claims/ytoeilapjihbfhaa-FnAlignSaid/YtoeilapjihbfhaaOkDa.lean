/- The walks of typeOk, a theorem for each kind: printed by the program gen_okd.py of this work. -/
import Derived.Test.YtoeilapjihbfhaaOkD
namespace Go.Proofs.Ytoeilapjihbfhaa
open Go.RowKit

set_option maxRecDepth 100000 in
set_option maxHeartbeats 4000000 in
theorem type_1 (A : Option Addr) (c : Nat) (l : List Ty) (nm : ByteArray) (size enc flag of idx : Int) (mem : List Mb) (At : Option Addr) (ct : Nat) (w : World) (h : Types w A l) (hm : Mems w At mem) (hn : nm.size ≤ 9223372036854775807) :
    Calls Try.prog 9 #[.slice A l.length c, tyV ⟨1, nm, size, enc, flag, of, idx, mem⟩ At ct] w (TPost l.length ⟨1, nm, size, enc, flag, of, idx, mem⟩ w) := by
  have hl := h.len
  have hml := hm.len
  have H := hid h
  have HM := hid hm
  clear h hm
  refine calls_ends fun P HP => ?_
  go_enter Try.func9, Try.ntmps9
  go_wp2_with (first
    | (go_at_call 15; refine (named_calls _ _).mono ?_; rintro e w' ⟨rfl, rfl⟩; rw [show namedF 1 = 1 by decide])
    | (go_at_call 16; refine (name_calls nm _ hn).mono ?_; rintro e w' ⟨bb, rfl, rfl⟩)
    | (go_at_call 17; refine (composed_calls _ _).mono ?_; rintro e w' ⟨rfl, rfl⟩; rw [show composedF 1 = false by decide])
    | (go_at_call 18; refine (refers_calls _ _).mono ?_; rintro e w' ⟨rfl, rfl⟩; rw [show refersF 1 = false by decide])
    | (go_at_call 19; refine (sized_calls _ _).mono ?_; rintro e w' ⟨rfl, rfl⟩; rw [show sizedF 1 = true by decide])
    | (go_at_call 20; refine (details_calls A c l ⟨_, nm, _, _, _, _, _, mem⟩ At ct _ (H.out.below (box_below _ _)) (HM.out.below (box_below _ _))).mono ?_; rintro e w' ⟨bd, rfl, hbd, hb'⟩))
  all_goals
    go_ret
    refine HP.out _ _ ⟨_, rfl, fun hq => ?_, by first | exact box_below _ _ | exact below_then (box_below _ _) hb'⟩
    first
      | (exfalso; simp at hq; done)
      | exact tok_mk (dok_swap (hbd hq) (by first | rfl | omega | (simp only [bne_eq_false_iff_eq] at *; omega)) (by first | rfl | omega | (simp only [bne_eq_false_iff_eq] at *; omega))) (by omega) (by omega) (by omega) (by omega) (by first | omega | (simp only [bne_eq_false_iff_eq] at *; omega)) (by first | omega | (simp only [bne_eq_false_iff_eq] at *; omega))

set_option maxRecDepth 100000 in
set_option maxHeartbeats 4000000 in
theorem type_2 (A : Option Addr) (c : Nat) (l : List Ty) (nm : ByteArray) (size enc flag of idx : Int) (mem : List Mb) (At : Option Addr) (ct : Nat) (w : World) (h : Types w A l) (hm : Mems w At mem) (_hn : nm.size ≤ 9223372036854775807) :
    Calls Try.prog 9 #[.slice A l.length c, tyV ⟨2, nm, size, enc, flag, of, idx, mem⟩ At ct] w (TPost l.length ⟨2, nm, size, enc, flag, of, idx, mem⟩ w) := by
  have hl := h.len
  have hml := hm.len
  have H := hid h
  have HM := hid hm
  clear h hm
  refine calls_ends fun P HP => ?_
  go_enter Try.func9, Try.ntmps9
  go_wp2_with (first
    | (go_at_call 15; refine (named_calls _ _).mono ?_; rintro e w' ⟨rfl, rfl⟩; rw [show namedF 2 = -1 by decide])
    | (go_at_call 17; refine (composed_calls _ _).mono ?_; rintro e w' ⟨rfl, rfl⟩; rw [show composedF 2 = false by decide])
    | (go_at_call 18; refine (refers_calls _ _).mono ?_; rintro e w' ⟨rfl, rfl⟩; rw [show refersF 2 = true by decide])
    | (go_at_call 19; refine (sized_calls _ _).mono ?_; rintro e w' ⟨rfl, rfl⟩; rw [show sizedF 2 = false by decide])
    | (go_at_call 20; refine (details_calls A c l ⟨_, nm, _, _, _, _, _, mem⟩ At ct _ (H.out.below (box_below _ _)) (HM.out.below (box_below _ _))).mono ?_; rintro e w' ⟨bd, rfl, hbd, hb'⟩))
  all_goals
    go_ret
    refine HP.out _ _ ⟨_, rfl, fun hq => ?_, by first | exact box_below _ _ | exact below_then (box_below _ _) hb'⟩
    first
      | (exfalso; simp at hq; done)
      | exact tok_mk (dok_swap (hbd hq) (by first | rfl | omega | (simp only [bne_eq_false_iff_eq] at *; omega)) (by first | rfl | omega | (simp only [bne_eq_false_iff_eq] at *; omega))) (by omega) (by omega) (by omega) (by omega) (by first | omega | (simp only [bne_eq_false_iff_eq] at *; omega)) (by first | omega | (simp only [bne_eq_false_iff_eq] at *; omega))

set_option maxRecDepth 100000 in
set_option maxHeartbeats 4000000 in
theorem type_3 (A : Option Addr) (c : Nat) (l : List Ty) (nm : ByteArray) (size enc flag of idx : Int) (mem : List Mb) (At : Option Addr) (ct : Nat) (w : World) (h : Types w A l) (hm : Mems w At mem) (_hn : nm.size ≤ 9223372036854775807) :
    Calls Try.prog 9 #[.slice A l.length c, tyV ⟨3, nm, size, enc, flag, of, idx, mem⟩ At ct] w (TPost l.length ⟨3, nm, size, enc, flag, of, idx, mem⟩ w) := by
  have hl := h.len
  have hml := hm.len
  have H := hid h
  have HM := hid hm
  clear h hm
  refine calls_ends fun P HP => ?_
  go_enter Try.func9, Try.ntmps9
  go_wp2_with (first
    | (go_at_call 15; refine (named_calls _ _).mono ?_; rintro e w' ⟨rfl, rfl⟩; rw [show namedF 3 = -1 by decide])
    | (go_at_call 17; refine (composed_calls _ _).mono ?_; rintro e w' ⟨rfl, rfl⟩; rw [show composedF 3 = false by decide])
    | (go_at_call 18; refine (refers_calls _ _).mono ?_; rintro e w' ⟨rfl, rfl⟩; rw [show refersF 3 = false by decide])
    | (go_at_call 19; refine (sized_calls _ _).mono ?_; rintro e w' ⟨rfl, rfl⟩; rw [show sizedF 3 = false by decide])
    | (go_at_call 20; refine (details_calls A c l ⟨_, nm, _, _, _, _, _, mem⟩ At ct _ (H.out.below (box_below _ _)) (HM.out.below (box_below _ _))).mono ?_; rintro e w' ⟨bd, rfl, hbd, hb'⟩))
  all_goals
    go_ret
    refine HP.out _ _ ⟨_, rfl, fun hq => ?_, by first | exact box_below _ _ | exact below_then (box_below _ _) hb'⟩
    first
      | (exfalso; simp at hq; done)
      | exact tok_mk (dok_swap (hbd hq) (by first | rfl | omega | (simp only [bne_eq_false_iff_eq] at *; omega)) (by first | rfl | omega | (simp only [bne_eq_false_iff_eq] at *; omega))) (by omega) (by omega) (by omega) (by omega) (by first | omega | (simp only [bne_eq_false_iff_eq] at *; omega)) (by first | omega | (simp only [bne_eq_false_iff_eq] at *; omega))

set_option maxRecDepth 100000 in
set_option maxHeartbeats 4000000 in
theorem type_4 (A : Option Addr) (c : Nat) (l : List Ty) (nm : ByteArray) (size enc flag of idx : Int) (mem : List Mb) (At : Option Addr) (ct : Nat) (w : World) (h : Types w A l) (hm : Mems w At mem) (hn : nm.size ≤ 9223372036854775807) :
    Calls Try.prog 9 #[.slice A l.length c, tyV ⟨4, nm, size, enc, flag, of, idx, mem⟩ At ct] w (TPost l.length ⟨4, nm, size, enc, flag, of, idx, mem⟩ w) := by
  have hl := h.len
  have hml := hm.len
  have H := hid h
  have HM := hid hm
  clear h hm
  refine calls_ends fun P HP => ?_
  go_enter Try.func9, Try.ntmps9
  go_wp2_with (first
    | (go_at_call 15; refine (named_calls _ _).mono ?_; rintro e w' ⟨rfl, rfl⟩; rw [show namedF 4 = 0 by decide])
    | (go_at_call 16; refine (name_calls nm _ hn).mono ?_; rintro e w' ⟨bb, rfl, rfl⟩)
    | (go_at_call 17; refine (composed_calls _ _).mono ?_; rintro e w' ⟨rfl, rfl⟩; rw [show composedF 4 = true by decide])
    | (go_at_call 18; refine (refers_calls _ _).mono ?_; rintro e w' ⟨rfl, rfl⟩; rw [show refersF 4 = false by decide])
    | (go_at_call 19; refine (sized_calls _ _).mono ?_; rintro e w' ⟨rfl, rfl⟩; rw [show sizedF 4 = true by decide])
    | (go_at_call 20; refine (details_calls A c l ⟨_, nm, _, _, _, _, _, mem⟩ At ct _ (H.out.below (box_below _ _)) (HM.out.below (box_below _ _))).mono ?_; rintro e w' ⟨bd, rfl, hbd, hb'⟩))
  all_goals
    go_ret
    refine HP.out _ _ ⟨_, rfl, fun hq => ?_, by first | exact box_below _ _ | exact below_then (box_below _ _) hb'⟩
    first
      | (exfalso; simp at hq; done)
      | exact tok_mk (dok_swap (hbd hq) (by first | rfl | omega | (simp only [bne_eq_false_iff_eq] at *; omega)) (by first | rfl | omega | (simp only [bne_eq_false_iff_eq] at *; omega))) (by omega) (by omega) (by omega) (by omega) (by first | omega | (simp only [bne_eq_false_iff_eq] at *; omega)) (by first | omega | (simp only [bne_eq_false_iff_eq] at *; omega))

set_option maxRecDepth 100000 in
set_option maxHeartbeats 4000000 in
theorem type_5 (A : Option Addr) (c : Nat) (l : List Ty) (nm : ByteArray) (size enc flag of idx : Int) (mem : List Mb) (At : Option Addr) (ct : Nat) (w : World) (h : Types w A l) (hm : Mems w At mem) (hn : nm.size ≤ 9223372036854775807) :
    Calls Try.prog 9 #[.slice A l.length c, tyV ⟨5, nm, size, enc, flag, of, idx, mem⟩ At ct] w (TPost l.length ⟨5, nm, size, enc, flag, of, idx, mem⟩ w) := by
  have hl := h.len
  have hml := hm.len
  have H := hid h
  have HM := hid hm
  clear h hm
  refine calls_ends fun P HP => ?_
  go_enter Try.func9, Try.ntmps9
  go_wp2_with (first
    | (go_at_call 15; refine (named_calls _ _).mono ?_; rintro e w' ⟨rfl, rfl⟩; rw [show namedF 5 = 0 by decide])
    | (go_at_call 16; refine (name_calls nm _ hn).mono ?_; rintro e w' ⟨bb, rfl, rfl⟩)
    | (go_at_call 17; refine (composed_calls _ _).mono ?_; rintro e w' ⟨rfl, rfl⟩; rw [show composedF 5 = true by decide])
    | (go_at_call 18; refine (refers_calls _ _).mono ?_; rintro e w' ⟨rfl, rfl⟩; rw [show refersF 5 = false by decide])
    | (go_at_call 19; refine (sized_calls _ _).mono ?_; rintro e w' ⟨rfl, rfl⟩; rw [show sizedF 5 = true by decide])
    | (go_at_call 20; refine (details_calls A c l ⟨_, nm, _, _, _, _, _, mem⟩ At ct _ (H.out.below (box_below _ _)) (HM.out.below (box_below _ _))).mono ?_; rintro e w' ⟨bd, rfl, hbd, hb'⟩))
  all_goals
    go_ret
    refine HP.out _ _ ⟨_, rfl, fun hq => ?_, by first | exact box_below _ _ | exact below_then (box_below _ _) hb'⟩
    first
      | (exfalso; simp at hq; done)
      | exact tok_mk (dok_swap (hbd hq) (by first | rfl | omega | (simp only [bne_eq_false_iff_eq] at *; omega)) (by first | rfl | omega | (simp only [bne_eq_false_iff_eq] at *; omega))) (by omega) (by omega) (by omega) (by omega) (by first | omega | (simp only [bne_eq_false_iff_eq] at *; omega)) (by first | omega | (simp only [bne_eq_false_iff_eq] at *; omega))

set_option maxRecDepth 100000 in
set_option maxHeartbeats 4000000 in
theorem type_6 (A : Option Addr) (c : Nat) (l : List Ty) (nm : ByteArray) (size enc flag of idx : Int) (mem : List Mb) (At : Option Addr) (ct : Nat) (w : World) (h : Types w A l) (hm : Mems w At mem) (hn : nm.size ≤ 9223372036854775807) :
    Calls Try.prog 9 #[.slice A l.length c, tyV ⟨6, nm, size, enc, flag, of, idx, mem⟩ At ct] w (TPost l.length ⟨6, nm, size, enc, flag, of, idx, mem⟩ w) := by
  have hl := h.len
  have hml := hm.len
  have H := hid h
  have HM := hid hm
  clear h hm
  refine calls_ends fun P HP => ?_
  go_enter Try.func9, Try.ntmps9
  go_wp2_with (first
    | (go_at_call 15; refine (named_calls _ _).mono ?_; rintro e w' ⟨rfl, rfl⟩; rw [show namedF 6 = 0 by decide])
    | (go_at_call 16; refine (name_calls nm _ hn).mono ?_; rintro e w' ⟨bb, rfl, rfl⟩)
    | (go_at_call 17; refine (composed_calls _ _).mono ?_; rintro e w' ⟨rfl, rfl⟩; rw [show composedF 6 = true by decide])
    | (go_at_call 18; refine (refers_calls _ _).mono ?_; rintro e w' ⟨rfl, rfl⟩; rw [show refersF 6 = false by decide])
    | (go_at_call 19; refine (sized_calls _ _).mono ?_; rintro e w' ⟨rfl, rfl⟩; rw [show sizedF 6 = true by decide])
    | (go_at_call 20; refine (details_calls A c l ⟨_, nm, _, _, _, _, _, mem⟩ At ct _ (H.out.below (box_below _ _)) (HM.out.below (box_below _ _))).mono ?_; rintro e w' ⟨bd, rfl, hbd, hb'⟩))
  all_goals
    go_ret
    refine HP.out _ _ ⟨_, rfl, fun hq => ?_, by first | exact box_below _ _ | exact below_then (box_below _ _) hb'⟩
    first
      | (exfalso; simp at hq; done)
      | exact tok_mk (dok_swap (hbd hq) (by first | rfl | omega | (simp only [bne_eq_false_iff_eq] at *; omega)) (by first | rfl | omega | (simp only [bne_eq_false_iff_eq] at *; omega))) (by omega) (by omega) (by omega) (by omega) (by first | omega | (simp only [bne_eq_false_iff_eq] at *; omega)) (by first | omega | (simp only [bne_eq_false_iff_eq] at *; omega))

end Go.Proofs.Ytoeilapjihbfhaa
