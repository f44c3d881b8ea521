/- The walks of alignof and of impl.Align. -/
import Derived.Test.YtoeilapjihbfhaaUnB
namespace Go.Proofs.Ytoeilapjihbfhaa
open Go.RowKit
attribute [local go_sem] yes62 no62 yes65 no65 yes69 no69

theorem pow_calls (r : Int) (w : World) (h : r = 1 ∨ r = 2 ∨ r = 4 ∨ r = 8 ∨ r = 16) : Calls Try.prog 34 #[.int .i64 r] w fun e w' => e = .returned (.bool true) ∧ w = w' := by
  rcases h with rfl | rfl | rfl | rfl | rfl
  all_goals
    go_enter Try.func34, Try.ntmps34
    go_wp2
    go_ret
    exact ⟨rfl, rfl⟩

theorem esize_calls (b : Nat) (w : World) (v : Value) (h : w.cell? ⟨b, 1, none⟩ = some v) : Calls Try.prog 32 #[.pointer (some ⟨b, 0, none⟩)] w fun e w' => e = .returned v ∧ w = w' := by
  go_enter Try.func32, Try.ntmps32
  go_wp2
  go_ret
  exact ⟨rfl, rfl⟩

theorem Chain.pos {l : List Ty} {n : Int} {q k : Nat} (h : Chain l n (q + 1) k) : 1 ≤ n ∧ n ≤ l.length := by
  generalize hm : (q : Int) + 1 = m at h
  cases h with
  | done m h0 h1 h => omega
  | step n m k h0 h1 hp h => exact ⟨h0, h1⟩
theorem AlignsTo.pos {l : List Ty} {n r : Int} (h : AlignsTo l n r) : 1 ≤ n ∧ n ≤ l.length := by
  cases h with
  | base n j k hc => exact hc.pos
  | step n r j k hc => exact hc.pos

set_option maxHeartbeats 4000000 in
theorem alignof_calls (a : Nat) (l : List Ty) (B : Nat → Nat) (w : World) (hB : Built w a l B) (hok : LOk l) (n r : Int) (hA : AlignsTo l n r) : ∀ j : Nat, n = j + 1 →
    Calls Try.prog 23 #[.iface (tidOf (nthT l j).kind) (.pointer (some ⟨B j, 0, none⟩))] w fun e w' => e = .returned (.tuple #[.int .i64 r, .nilIface]) ∧ w = w' := by
  induction hA with
  | base n q k hc hk hq h =>
    rintro j rfl
    have hj : j < l.length := by have := hc.pos; omega
    refine calls_ends fun P HP => ?_
    have H := hid hB
    have HU := hid (underlying_calls a l B j q k w hB hj (by have := hok.len; omega) hc (by omega))
    obtain ⟨cs, h1, h2, _, _⟩ := (hB.lnk q hq).blk
    have c1 : w.cell? ⟨B q, 1, none⟩ = some (.int .u32 (nthT l q).size) := by rw [blk_cell h1]; exact h2 h
    have hd := (hok.all q hq).d
    have hsz : (nthT l q).size = 1 ∨ (nthT l q).size = 2 ∨ (nthT l q).size = 4 ∨ (nthT l q).size = 8 ∨ (nthT l q).size = 16 := by
      rcases h with h | h | h
      · exact hd.int h
      · have := hd.enum h; omega
      · have := hd.enum64 h; omega
    clear hB hok h1 h2 hd hc
    generalize nthT l q = t at *
    generalize hT : tidOf (nthT l j).kind = T at *
    generalize hT2 : tidOf t.kind = T2 at *
    generalize t.size = z at *
    clear hT
    have HPW := hid (pow_calls z w hsz)
    go_enter Try.func23, Try.ntmps23
    rcases h with h | h | h
    · obtain rfl : T2 = 65 := by rw [h] at hT2; exact hT2.symm
      rcases hsz with rfl | rfl | rfl | rfl | rfl
      all_goals
        go_wp2_with (first | (go_at_call 31; refine HU.out.mono ?_; rintro e w' ⟨rfl, rfl⟩) | (go_at_call 34; refine HPW.out.mono ?_; rintro e w' ⟨rfl, rfl⟩))
        go_ret2
        exact HP.out _ _ ⟨rfl, rfl⟩
    · obtain rfl : T2 = 62 := by rw [h] at hT2; exact hT2.symm
      have HES := hid (esize_calls (B q) w _ c1)
      rcases hsz with rfl | rfl | rfl | rfl | rfl
      all_goals
        go_wp2_with (first | (go_at_call 31; refine HU.out.mono ?_; rintro e w' ⟨rfl, rfl⟩) | (go_at_call 32; refine HES.out.mono ?_; rintro e w' ⟨rfl, rfl⟩) | (go_at_call 34; refine HPW.out.mono ?_; rintro e w' ⟨rfl, rfl⟩))
        go_ret2
        exact HP.out _ _ ⟨rfl, rfl⟩
    · obtain rfl : T2 = 62 := by rw [h] at hT2; exact hT2.symm
      have HES := hid (esize_calls (B q) w _ c1)
      rcases hsz with rfl | rfl | rfl | rfl | rfl
      all_goals
        go_wp2_with (first | (go_at_call 31; refine HU.out.mono ?_; rintro e w' ⟨rfl, rfl⟩) | (go_at_call 32; refine HES.out.mono ?_; rintro e w' ⟨rfl, rfl⟩) | (go_at_call 34; refine HPW.out.mono ?_; rintro e w' ⟨rfl, rfl⟩))
        go_ret2
        exact HP.out _ _ ⟨rfl, rfl⟩
  | step n r q k hc hk hq h h2 ih =>
    rintro j rfl
    have hj : j < l.length := by have := hc.pos; omega
    refine calls_ends fun P HP => ?_
    have HU := hid (underlying_calls a l B j q k w hB hj (by have := hok.len; omega) hc (by omega))
    obtain ⟨cs, h1, _, h3, _⟩ := (hB.lnk q hq).blk
    obtain ⟨T3, p, q1, _, q3⟩ := h3 (.inl h)
    have hp := h2.pos
    obtain ⟨j', hj'⟩ : ∃ j' : Nat, (nthT l q).of = j' + 1 := ⟨((nthT l q).of - 1).toNat, by omega⟩
    obtain ⟨rfl, rfl⟩ := q3 hp.1
    have hih := ih j' hj'
    rw [hj', show ((j' : Int) + 1 - 1).toNat = j' by omega] at q1
    have c1 : w.cell? ⟨B q, 1, none⟩ = some (.iface (tidOf (nthT l j').kind) (.pointer (some ⟨B j', 0, none⟩))) := by rw [blk_cell h1]; exact q1
    have HIH := hid hih
    clear hB hok h1 h3 q1 q3 hc ih hih h2 hp hj'
    generalize nthT l q = t at *
    generalize hT : tidOf (nthT l j).kind = T at *
    generalize hT2 : tidOf t.kind = T2 at *
    clear hT
    obtain rfl : T2 = 69 := by rw [h] at hT2; exact hT2.symm
    go_enter Try.func23, Try.ntmps23
    go_wp2_with (first | (go_at_call 31; refine HU.out.mono ?_; rintro e w' ⟨rfl, rfl⟩) | (go_at_call 23; refine HIH.out.mono ?_; rintro e w' ⟨rfl, rfl⟩))
    go_ret2
    exact HP.out _ _ ⟨rfl, rfl⟩
end Go.Proofs.Ytoeilapjihbfhaa
