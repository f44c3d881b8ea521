/- The walk of spec.Align: what it hands back is the alignment that the types tell. -/
import Derived.Test.YtoeilapjihbfhaaSpA
namespace Go.Proofs.Ytoeilapjihbfhaa
open Go.RowKit

/-- The alignment that a number's type tells. -/
inductive AlignsTo (l : List Ty) : Int → Int → Prop
  | base (n : Int) (j k : Nat) (hc : Chain l n (j + 1) k) (hk : k ≤ l.length) (hj : j < l.length) (h : (nthT l j).kind = 1 ∨ (nthT l j).kind = 6 ∨ (nthT l j).kind = 19) : AlignsTo l n (nthT l j).size
  | step (n r : Int) (j k : Nat) (hc : Chain l n (j + 1) k) (hk : k ≤ l.length) (hj : j < l.length) (h : (nthT l j).kind = 3) (h2 : AlignsTo l (nthT l j).of r) : AlignsTo l n r

def AlignPost (l : List Ty) (n : Int) (w : World) (e : Ending) (w' : World) : Prop :=
  ∃ r b, e = .returned (.tuple #[.int .i64 r, .bool b]) ∧ w' = w ∧ (b = true → AlignsTo l n r)

theorem Chain.bounds {l : List Ty} {n m : Int} {k : Nat} (h : Chain l n m k) : 0 ≤ m ∧ m ≤ l.length := by
  induction h with
  | done m h0 h1 h => exact ⟨h0, h1⟩
  | step n m k h0 h1 hp h ih => exact ih

theorem kindF_at {l : List Ty} {j : Nat} (h : j < l.length) : kindF l (j + 1) = (nthT l j).kind := by
  rw [kindF, if_neg (by omega), if_neg (by omega), show ((j : Int) + 1 - 1).toNat = j by omega]

set_option maxHeartbeats 4000000 in
theorem align_calls (A : Option Addr) (c : Nat) (l : List Ty) (w : World) (h : Types w A l) (hok : LOk l) (d : Nat) : ∀ (n deep : Int), 0 ≤ n → n ≤ l.length → deep + d = 13 → 0 ≤ deep →
    Calls Try.prog 6 #[.slice A l.length c, .int .i64 n, .int .i64 deep] w (AlignPost l n w) := by
  induction d with
  | zero =>
    intro n deep h0 h1 hd hd0
    obtain rfl : deep = 13 := by omega
    refine calls_ends fun P HP => ?_
    have hl := hok.len
    have H := hid h
    have HOK := hid hok
    clear h hok
    go_enter Try.func6, Try.ntmps6
    go_wp2_with (go_at_call 10; refine (under_calls A c l n w H.out HOK.out h0 h1).mono ?_; rintro e w' ⟨m, b, rfl, rfl, hb⟩)
    all_goals
      go_ret2
      exact HP.out _ _ ⟨0, false, rfl, rfl, fun h => by simp at h⟩
  | succ d ih =>
    intro n deep h0 h1 hd hd0
    refine calls_ends fun P HP => ?_
    have hl := hok.len
    have H := hid h
    have HOK := hid hok
    have IH := hid ih
    clear h hok ih
    go_enter Try.func6, Try.ntmps6
    go_wp2_with (go_at_call 10; refine (under_calls A c l n w H.out HOK.out h0 h1).mono ?_; rintro e w' ⟨m, b, rfl, rfl, hb⟩; rcases b with _ | _; rotate_left; by_cases hm : m = 0)
    · subst hm
      go_wp2_with (go_at_call 11; refine (kindOf_calls _ c l _ _ H.out).mono ?_; rintro e w' ⟨rfl, rfl⟩; rw [show kindF l 0 = 0 from rfl])
      go_ret2
      exact HP.out _ _ ⟨0, false, rfl, rfl, fun h => by simp at h⟩
    · obtain ⟨q, hq, hc⟩ := hb (by trivial)
      have hbd := hc.bounds
      obtain ⟨j, rfl⟩ : ∃ j : Nat, m = j + 1 := ⟨(m - 1).toNat, by omega⟩
      have hj : j < l.length := by omega
      have hto := HOK.out.all j hj
      have hkj := kindF_at hj
      have HC := hid hc
      obtain ⟨b, o, C, cc, rfl, hmm⟩ := H.out.at_ hj
      have h2 := hmm.c2
      have h5 := hmm.c5
      have HB := hid (AlignsTo.base n j q hc hq hj)
      have HS := hid (fun r => AlignsTo.step n r j q hc hq hj)
      generalize hnt : nthT l j = t at *
      have h6 := hto.of0
      have h7 := hto.of1
      clear hmm hnt hto hc hm hb hbd
      go_wp2_with (first | (go_at_call 11; refine (kindOf_calls _ c l _ _ H.out).mono ?_; rintro e w' ⟨rfl, rfl⟩; rw [hkj]) | (go_at_call 6; refine (IH.out t.of (deep + 1) h6 h7 (by omega) (by omega)).mono ?_; rintro e w' ⟨r, b2, rfl, rfl, hr⟩))
      all_goals
        go_ret2
        first
          | exact HP.out _ _ ⟨0, false, rfl, rfl, fun h => by simp at h⟩
          | exact HP.out _ _ ⟨_, true, rfl, rfl, fun _ => HB.out (by first | exact .inl (eq_of_beq (by assumption)) | exact .inr (.inl (eq_of_beq (by assumption))) | exact .inr (.inr (eq_of_beq (by assumption))))⟩
          | exact HP.out _ _ ⟨_, _, rfl, rfl, fun h => HS.out _ (eq_of_beq (by assumption)) (hr h)⟩
    · go_wp2_with fail
      go_ret2
      exact HP.out _ _ ⟨0, false, rfl, rfl, fun h => by simp at h⟩

end Go.Proofs.Ytoeilapjihbfhaa
