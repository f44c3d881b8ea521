/- The walks of the small tests on kinds: named, composed, refers, sized, peeled, kindOf, valueOk, nameOk. -/
import Derived.Test.YtoeilapjihbfhaaData
import Derived.Deep.LoopGhost
import Derived.Deep.DeepCutAuto
namespace Go.Proofs.Ytoeilapjihbfhaa
open Go.RowKit

/-- 1: a kind must have a name; 0: it may; -1: it has none. -/
def namedMust (k : Int) : Bool := k == 1 || (k == 7 || (k == 8 || (k == 12 || (k == 14 || (k == 15 || (k == 16 || k == 18))))))
def namedMay (k : Int) : Bool := k == 4 || (k == 5 || (k == 6 || k == 19))
def namedF (k : Int) : Int := bif namedMust k then 1 else bif namedMay k then 0 else -1
def composedF (k : Int) : Bool := k == 4 || (k == 5 || (k == 6 || (k == 13 || (k == 15 || k == 19))))
def refersF (k : Int) : Bool := k == 2 || (k == 8 || (k == 9 || (k == 10 || (k == 11 || k == 18))))
def sizedF (k : Int) : Bool := k == 1 || (k == 4 || (k == 5 || (k == 6 || (k == 15 || (k == 16 || k == 19)))))
def peeledF (k : Int) : Bool := k == 8 || (k == 9 || (k == 10 || (k == 11 || k == 18)))

theorem composed_calls (k : Int) (w : World) : Calls Try.prog 17 #[.int .i64 k] w fun e w' => e = .returned (.bool (composedF k)) ∧ w = w' := by
  generalize hr : composedF k = r
  have H := hid hr
  clear hr
  go_enter Try.func17, Try.ntmps17
  go_wp2
  all_goals
    go_ret
    refine ⟨?_, rfl⟩
    rw [← H.out]
    simp [composedF, *]

theorem refers_calls (k : Int) (w : World) : Calls Try.prog 18 #[.int .i64 k] w fun e w' => e = .returned (.bool (refersF k)) ∧ w = w' := by
  generalize hr : refersF k = r
  have H := hid hr
  clear hr
  go_enter Try.func18, Try.ntmps18
  go_wp2
  all_goals
    go_ret
    refine ⟨?_, rfl⟩
    rw [← H.out]
    simp [refersF, *]

theorem sized_calls (k : Int) (w : World) : Calls Try.prog 19 #[.int .i64 k] w fun e w' => e = .returned (.bool (sizedF k)) ∧ w = w' := by
  generalize hr : sizedF k = r
  have H := hid hr
  clear hr
  go_enter Try.func19, Try.ntmps19
  go_wp2
  all_goals
    go_ret
    refine ⟨?_, rfl⟩
    rw [← H.out]
    simp [sizedF, *]

theorem peeled_calls (k : Int) (w : World) : Calls Try.prog 21 #[.int .i64 k] w fun e w' => e = .returned (.bool (peeledF k)) ∧ w = w' := by
  generalize hr : peeledF k = r
  have H := hid hr
  clear hr
  go_enter Try.func21, Try.ntmps21
  go_wp2
  all_goals
    go_ret
    refine ⟨?_, rfl⟩
    rw [← H.out]
    simp [peeledF, *]

theorem named_calls (k : Int) (w : World) : Calls Try.prog 15 #[.int .i64 k] w fun e w' => e = .returned (.int .i64 (namedF k)) ∧ w = w' := by
  generalize hr : namedF k = r
  have H := hid hr
  clear hr
  go_enter Try.func15, Try.ntmps15
  go_wp2
  all_goals
    go_ret
    refine ⟨?_, rfl⟩
    rw [← H.out]
    simp [namedF, namedMust, namedMay, *]

/-- The kind of a number. -/
def kindF (l : List Ty) (n : Int) : Int := if n < 1 then 0 else if (l.length : Int) < n then 0 else (nthT l (n - 1).toNat).kind

theorem kindOf_calls (A : Option Addr) (c : Nat) (l : List Ty) (n : Int) (w : World) (h : Types w A l) :
    Calls Try.prog 11 #[.slice A l.length c, .int .i64 n] w fun e w' => e = .returned (.int .i64 (kindF l n)) ∧ w = w' := by
  have hl := h.len
  by_cases h1 : n < 1
  · have e : kindF l n = 0 := by simp [kindF, h1]
    rw [e]
    clear h e
    go_enter Try.func11, Try.ntmps11
    go_wp2
    go_ret
    exact ⟨rfl, rfl⟩
  · by_cases h2 : (l.length : Int) < n
    · have e : kindF l n = 0 := by simp [kindF, h1, h2]
      rw [e]
      clear h e
      go_enter Try.func11, Try.ntmps11
      go_wp2
      go_ret
      exact ⟨rfl, rfl⟩
    · obtain ⟨k, rfl⟩ : ∃ k : Nat, n = k + 1 := ⟨(n - 1).toNat, by omega⟩
      have e : kindF l (k + 1) = (nthT l k).kind := by
        rw [kindF, if_neg h1, if_neg h2, show ((k : Int) + 1 - 1).toNat = k by omega]
      rw [e]
      have hk : k < l.length := by omega
      obtain ⟨b, o, B, cc, rfl, hm⟩ := h.at_ hk
      have h0 := hm.c0
      generalize nthT l k = t at *
      clear hm h e
      go_enter Try.func11, Try.ntmps11
      go_wp2
      go_ret
      exact ⟨rfl, rfl⟩
end Go.Proofs.Ytoeilapjihbfhaa
