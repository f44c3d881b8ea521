/- The walks of impl.Align and of the law laws.FnAlign. -/
import Derived.Test.YtoeilapjihbfhaaAlA
import Derived.Test.YtoeilapjihbfhaaFits
namespace Go.Proofs.Ytoeilapjihbfhaa
open Go.RowKit

theorem eqNil40 (w : World) : (binOp .eql 40 .nilIface .nilIface).run Try.prog w = .ok (.bool true) w := run_eql_nil_nil w 40 (by kernel_rfl)
attribute [local go_sem] eqNil40

theorem zz_calls (v : Value) (w : World) (r : Int) (h : Calls Try.prog 23 #[v] w fun e w' => e = .returned (.tuple #[.int .i64 r, .nilIface]) ∧ w = w') :
    Calls Try.prog 13 #[v] w fun e w' => e = .returned (.tuple #[.int .i64 r, .nilIface]) ∧ w = w' := by
  have H := hid h
  clear h
  go_enter Try.func13, Try.ntmps13
  go_wp2_with (go_at_call 23; refine H.out.mono ?_; rintro e w' ⟨rfl, rfl⟩)
  go_ret2
  exact ⟨rfl, rfl⟩

set_option maxRecDepth 100000 in
set_option maxHeartbeats 2000000 in
theorem ialign_calls (A : Option Addr) (c : Nat) (l : List Ty) (j : Nat) (r : Int) (w : World) (h : Types w A l) (hok : LOk l) (hj : j < l.length) (hA : AlignsTo l (j + 1) r) :
    Calls Try.prog 7 #[.slice A l.length c, .int .i64 (j + 1)] w fun e w' => e = .returned (.tuple #[.int .i64 r, .bool true]) ∧ Below w.heap.size w w' := by
  refine calls_ends fun P HP => ?_
  have hl := hok.len
  have H := hid h
  have HOK := hid hok
  have HA := hid hA
  clear h hok hA
  go_enter Try.func7, Try.ntmps7
  go_wp2_with (first
    | (go_at_call 12; refine (one_calls A c l j w H.out HOK.out hj).mono ?_; rintro e w' ⟨a, B, s, rfl, hb, hbel⟩; have HB := hid hb; have HBE := hid hbel; clear hb hbel)
    | (go_at_call 13; refine (zz_calls _ _ r (alignof_calls a l B _ HB.out HOK.out _ r HA.out j rfl)).mono ?_; rintro e w2 ⟨rfl, rfl⟩))
  go_quiet (fail)
  simp only [Exit.then]
  go_wp2_with fail
  go_ret2
  exact HP.out _ _ ⟨rfl, below_drewN HBE.out _⟩

def AlignSaid (w : World) (e : Ending) (w' : World) : Prop := e = .returned (.bool true) ∧ Below w.heap.size w w'

set_option maxRecDepth 100000 in
set_option maxHeartbeats 2000000 in
theorem law_calls (A : Option Addr) (c : Nat) (l : List Ty) (k : Nat) (w : World) (h : Types w A l) (hk : k < 256) :
    Calls Try.prog 3 #[.slice A l.length c, .int .u8 k] w (AlignSaid w) := by
  refine calls_ends fun P HP => ?_
  have hl := h.len
  have H := hid h
  clear h
  generalize hn : l.length = n at *
  have HN := hid hn
  clear hn
  have hz : (n = 0 ∧ ((n : Int) == 0) = true) ∨ (0 < n ∧ ((n : Int) == 0) = false) := by
    by_cases h : n = 0
    · exact .inl ⟨h, by simp [h]⟩
    · exact .inr ⟨by omega, by simpa using h⟩
  rcases hz with ⟨h0, hzz⟩ | ⟨h0, hzz⟩
  · have H0 := hid h0
    clear h0
    go_enter Try.func3, Try.ntmps3
    go_wp2_with (first
      | (go_at_call 4; refine (by rw [← HN.out]; exact zz1 A c l w H.out : Calls _ _ _ _ (SomeBool w)).mono ?_; rintro e w1 ⟨b, rfl, hb1⟩)
      | (go_at_call 5; refine (by rw [← HN.out]; exact types_calls A c l w1 (H.out.below hb1) : Calls _ _ _ _ (LPost l w1)).mono ?_; rintro e w2 ⟨b2, rfl, hb2, hbel2⟩))
    all_goals
      go_ret
      exact HP.out _ _ ⟨rfl, by first | exact hb1 | exact below_then hb1 hbel2⟩
  · have H0 := hid h0
    have he : 1 + (k : Int) % n = ((k % n : Nat) : Int) + 1 := by omega
    have hj := Nat.mod_lt k h0
    have hjk := Nat.mod_le k n
    generalize k % n = j at he hj hjk
    have hm0 : 0 ≤ (k : Int) % n := by omega
    have hm1 : (k : Int) % n < 256 := by omega
    clear hjk
    clear h0
    have hj1 : j < l.length := by rw [HN.out]; exact hj
    have hj2 : (j : Int) + 1 ≤ l.length := by omega
    have hne : ¬ (n : Int) = 0 := by omega
    have HE := hid he
    have HJ1 := hid hj1
    have HJ2 := hid hj2
    clear he hj1 hj2
    go_enter Try.func3, Try.ntmps3
    go_wp2_with (first
      | (go_at_call 4; refine (by rw [← HN.out]; exact zz1 A c l w H.out : Calls _ _ _ _ (SomeBool w)).mono ?_; rintro e w1 ⟨b, rfl, hb1⟩)
      | (go_at_call 5; refine (by rw [← HN.out]; exact types_calls A c l w1 (H.out.below hb1) : Calls _ _ _ _ (LPost l w1)).mono ?_; rintro e w2 ⟨b2, rfl, hb2, hbel2⟩)
      | (go_at_call 6; rw [HE.out]; refine (by rw [← HN.out]; exact align_calls A c l w2 (H.out.below (below_then hb1 hbel2)) (hb2 (by assumption)) 13 (j + 1) 0 (by omega) HJ2.out (by omega) (by omega) : Calls _ _ _ _ (AlignPost l (j + 1) w2)).mono ?_; rintro e w3 ⟨r, b3, rfl, rfl, hb3⟩)
      | (go_at_call 7; refine (by rw [← HN.out]; exact ialign_calls A c l j r w3 (H.out.below (below_then hb1 hbel2)) (hb2 (by assumption)) HJ1.out (hb3 (by simpa using ‹(!b3) = false›)) : Calls _ _ _ _ (fun e w' => e = .returned (.tuple #[.int .i64 r, .bool true]) ∧ Below w3.heap.size w3 w')).mono ?_; rintro e w4 ⟨rfl, hbel4⟩))
    all_goals
      go_ret
      exact HP.out _ _ ⟨rfl, by first | exact below_then (below_then hb1 hbel2) hbel4 | exact below_then hb1 hbel2 | exact hb1⟩

end Go.Proofs.Ytoeilapjihbfhaa
