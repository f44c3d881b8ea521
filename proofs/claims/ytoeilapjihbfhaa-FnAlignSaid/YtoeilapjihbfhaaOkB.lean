/- The walk of memberOk: some bool; if it is true, the member's numbers lie in their bounds. -/
import Derived.Test.YtoeilapjihbfhaaOkA
namespace Go.Proofs.Ytoeilapjihbfhaa
open Go.RowKit

/-- What is told of a member: it is of a type that is there; its numbers are small. -/
structure MOk (n : Nat) (m : Mb) : Prop where
  of0 : 0 ≤ m.of
  of1 : m.of ≤ n
  off0 : 0 ≤ m.off
  off1 : m.off < 16777216
  bits0 : 0 ≤ m.bits
  bits1 : m.bits < 16777216

theorem kind14 {l : List Ty} {n : Int} (h : kindF l n = 14) : 1 ≤ n ∧ n ≤ l.length := by
  unfold kindF at h
  split at h
  · omega
  · split at h <;> omega

theorem mok_of {n : Nat} {nm : ByteArray} {of off bits val : Int} (h1 : 0 ≤ of) (h2 : of ≤ n) (h3 : 0 ≤ off) (h4 : off < 16777216) (h5 : 0 ≤ bits) (h6 : bits < 16777216) : MOk n ⟨nm, of, off, bits, val⟩ :=
  ⟨h1, h2, h3, h4, h5, h6⟩

/-- The answer of memberOk, whatever it is, and what it says. -/
def MPost (n : Nat) (m : Mb) (w : World) (e : Ending) (w' : World) : Prop := ∃ b, e = .returned (.bool b) ∧ (b = true → MOk n m) ∧ Below w.heap.size w w'

set_option maxHeartbeats 4000000 in
theorem member_calls (A : Option Addr) (c : Nat) (l : List Ty) (t : Ty) (At : Option Addr) (ct : Nat) (m : Mb) (w : World) (h : Types w A l) (hm : m.name.size ≤ 9223372036854775807) :
    Calls Try.prog 25 #[.slice A l.length c, tyV t At ct, mbV m] w (MPost l.length m w) := by
  obtain ⟨nm, of, off, bits, val⟩ := m
  have hl := h.len
  have H := hid h
  clear h
  by_cases h14 : kindF l of = 14
  · obtain ⟨g1, g2⟩ := kind14 h14
    obtain ⟨k, rfl⟩ : ∃ k : Nat, of = k + 1 := ⟨(of - 1).toNat, by omega⟩
    have hk : k < l.length := by omega
    have h14' : (kindF l (k + 1) == 14) = true := by simpa using h14
    have H14 := hid h14'
    have hk1 : ((k : Int) + 1 == 0) = false := by simp; omega
    have hk2 : ¬ (k : Int) + 1 = 0 := by omega
    clear h14 h14'
    obtain ⟨b, o, B, cc, rfl, ht⟩ := H.out.at_ hk
    have hc : ∀ o1 o2, ((w.alloc o1).alloc o2).cell? ⟨b, o + k * 8 + 5, none⟩ = some (.int .i64 (nthT l k).of) := fun o1 o2 => keep_cell (below_alloc (below_alloc (Below.refl _ _) _) _) ht.c5
    generalize nthT l k = t' at *
    clear ht
    go_enter Try.func25, Try.ntmps25
    go_wp2_with (first
      | (go_at_call 16; refine (name_calls nm _ hm).mono ?_; rintro e w' ⟨bb, rfl, rfl⟩)
      | (go_at_call 11; have h14 := H14.out; refine (kindOf_calls _ c l _ _ (H.out.below (below_alloc (below_alloc (Below.refl _ _) _) _))).mono ?_; rintro e w' ⟨rfl, rfl⟩)
      | (go_at_call 21; refine (peeled_calls _ _).mono ?_; rintro e w' ⟨rfl, rfl⟩)
      | (go_at_call 35; refine (value_calls t At ct val _).mono ?_; rintro e w' ⟨bb, rfl, hb'⟩))
    all_goals
      go_ret
      refine ⟨_, rfl, fun hq => ?_, by first | exact below_alloc (below_alloc (Below.refl _ _) _) _ | exact below_then (below_alloc (below_alloc (Below.refl _ _) _) _) hb'⟩
      first
        | (exfalso; simp at hq; done)
        | exact mok_of (by omega) (by omega) (by omega) (by omega) (by omega) (by omega)
        | (simp at hq; exact mok_of (by omega) (by omega) (by omega) (by omega) (by omega) (by omega))
  · have h14' : (kindF l of == 14) = false := by simpa using h14
    have H14 := hid h14'
    clear h14 h14'
    go_enter Try.func25, Try.ntmps25
    go_wp2_with (first
      | (go_at_call 16; refine (name_calls nm _ hm).mono ?_; rintro e w' ⟨bb, rfl, rfl⟩)
      | (go_at_call 11; have h14 := H14.out; refine (kindOf_calls _ c l _ _ (H.out.below (below_alloc (below_alloc (Below.refl _ _) _) _))).mono ?_; rintro e w' ⟨rfl, rfl⟩)
      | (go_at_call 35; refine (value_calls t At ct val _).mono ?_; rintro e w' ⟨bb, rfl, hb'⟩))
    all_goals
      go_ret
      refine ⟨_, rfl, fun hq => ?_, by first | exact below_alloc (below_alloc (Below.refl _ _) _) _ | exact below_then (below_alloc (below_alloc (Below.refl _ _) _) _) hb'⟩
      first
        | (exfalso; simp at hq; done)
        | exact mok_of (by omega) (by omega) (by omega) (by omega) (by omega) (by omega)
        | (simp at hq; exact mok_of (by omega) (by omega) (by omega) (by omega) (by omega) (by omega))
end Go.Proofs.Ytoeilapjihbfhaa
