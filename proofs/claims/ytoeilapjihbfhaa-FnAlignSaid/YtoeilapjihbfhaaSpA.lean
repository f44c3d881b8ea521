/- The walk of spec.Under: what it hands back is the end of a chain of modifiers. -/
import Derived.Test.YtoeilapjihbfhaaOkE
namespace Go.Proofs.Ytoeilapjihbfhaa
open Go.RowKit

/-- From the number n the modifiers lead to the number m in k steps. -/
inductive Chain (l : List Ty) : Int → Int → Nat → Prop
  | done (m : Int) (h0 : 0 ≤ m) (h1 : m ≤ l.length) (h : m = 0 ∨ peeledF (kindF l m) = false) : Chain l m m 0
  | step (n m : Int) (k : Nat) (h0 : 1 ≤ n) (h1 : n ≤ l.length) (hp : peeledF (kindF l n) = true) (h : Chain l (nthT l (n - 1).toNat).of m k) : Chain l n m (k + 1)

def UnderPost (l : List Ty) (n : Int) (w : World) (e : Ending) (w' : World) : Prop :=
  ∃ m b, e = .returned (.tuple #[.int .i64 m, .bool b]) ∧ w' = w ∧ (b = true → ∃ k, k ≤ l.length ∧ Chain l n m k)

set_option maxHeartbeats 2000000 in
theorem under_calls (A : Option Addr) (c : Nat) (l : List Ty) (n : Int) (w : World) (h : Types w A l) (hok : LOk l) (h0 : 0 ≤ n) (h1 : n ≤ l.length) : Calls Try.prog 10 #[.slice A l.length c, .int .i64 n] w (UnderPost l n w) := by
  refine calls_ends fun P HP => ?_
  have hl := hok.len
  have H := hid h
  have HOK := hid hok
  have HN := hid (And.intro h0 h1)
  clear h hok h0 h1
  go_enter Try.func10, Try.ntmps10
  go_wp2_with fail
  go_loopg [1, 9] (l.length + 1) (fun gk m i wr => ∃ (k : Nat) (q : Int), k + gk = l.length + 1 ∧ i = .int .i64 k ∧ m = .int .i64 q ∧ wr = w ∧ Hid (0 ≤ q ∧ q ≤ l.length ∧ ∀ m j, Chain l q m j → Chain l n m (j + k)))
  case atStart => exact ⟨0, n, by simp, rfl, rfl, rfl, hid ⟨HN.out.1, HN.out.2, fun m j h => h⟩⟩
  case round =>
    obtain ⟨k, q, hk, rfl, rfl, rfl, HQ⟩ := hrel
    have HK := hid hk
    clear hk
    by_cases hlt : k < l.length + 1
    · by_cases hq : q = 0
      · subst hq
        go_wp2_with fail
        go_ret2
        exact HP.out _ _ ⟨_, _, rfl, rfl, fun _ => ⟨k, by omega, by simpa using HQ.out.2.2 0 0 (.done 0 HQ.out.1 HQ.out.2.1 (.inl rfl))⟩⟩
      · by_cases hp : peeledF (kindF l q) = true
        · have hq' : (q == 0) = false := by simpa using hq
          obtain ⟨j, rfl⟩ : ∃ j : Nat, q = j + 1 := ⟨(q - 1).toNat, by have := HQ.out.1; omega⟩
          have hj : j < l.length := by have := HQ.out.2.1; omega
          have hto := HOK.out.all j hj
          have HS : Hid (∀ m i, Chain l (nthT l j).of m i → Chain l n m (i + (k + 1))) := fun m i h => by
            have := HQ.out.2.2 m (i + 1) (.step _ _ _ (by omega) (by omega) hp (by rw [show ((j : Int) + 1 - 1).toNat = j by omega]; exact h))
            rwa [Nat.add_right_comm] at this
          obtain ⟨b, o, C, cc, rfl, hm⟩ := H.out.at_ hj
          have h5 := hm.c5
          generalize hnt : nthT l j = t at *
          have h6 := hto.of0
          have h7 := hto.of1
          clear hm hnt hto
          go_wp2_with (first | (go_at_call 11; refine (kindOf_calls _ c l _ _ H.out).mono ?_; rintro e w' ⟨rfl, rfl⟩) | (go_at_call 21; refine (peeled_calls _ _).mono ?_; rintro e w' ⟨rfl, rfl⟩))
          go_roundg (gk - 1)
          case measure => have := HK.out; omega
          case rel => exact ⟨k + 1, t.of, by have := HK.out; omega, by go_num, rfl, rfl, hid ⟨h6, h7, HS.out⟩⟩
        · have hq' : (q == 0) = false := by simpa using hq
          have hp' : peeledF (kindF l q) = false := by simpa using hp
          go_wp2_with (first | (go_at_call 11; refine (kindOf_calls _ c l _ _ H.out).mono ?_; rintro e w' ⟨rfl, rfl⟩) | (go_at_call 21; refine (peeled_calls _ _).mono ?_; rintro e w' ⟨rfl, rfl⟩))
          go_ret2
          exact HP.out _ _ ⟨_, _, rfl, rfl, fun _ => ⟨k, by omega, by simpa using HQ.out.2.2 q 0 (.done q HQ.out.1 HQ.out.2.1 (.inr hp'))⟩⟩
    · go_wp2_with fail
      go_ret2
      exact HP.out _ _ ⟨0, false, rfl, rfl, fun h => by simp at h⟩

end Go.Proofs.Ytoeilapjihbfhaa
