/- The walks of the four qualify, and of UnderlyingType: over linked types it finds the end of the chain. -/
import Derived.Test.YtoeilapjihbfhaaImL
import Derived.Test.YtoeilapjihbfhaaSpB
import Derived.Handy
namespace Go.Proofs.Ytoeilapjihbfhaa
open Go.RowKit

theorem qual_76 (b : Nat) (w : World) (v : Value) (h : w.cell? ⟨b, 0, none⟩ = some v) : Calls Try.prog 76 #[.pointer (some ⟨b, 0, none⟩)] w fun e w' => e = .returned v ∧ w = w' := by
  go_enter Try.func76, Try.ntmps76
  go_wp2
  go_ret
  exact ⟨rfl, rfl⟩
theorem qual_79 (b : Nat) (w : World) (v : Value) (h : w.cell? ⟨b, 0, none⟩ = some v) : Calls Try.prog 79 #[.pointer (some ⟨b, 0, none⟩)] w fun e w' => e = .returned v ∧ w = w' := by
  go_enter Try.func79, Try.ntmps79
  go_wp2
  go_ret
  exact ⟨rfl, rfl⟩
theorem qual_82 (b : Nat) (w : World) (v : Value) (h : w.cell? ⟨b, 0, none⟩ = some v) : Calls Try.prog 82 #[.pointer (some ⟨b, 0, none⟩)] w fun e w' => e = .returned v ∧ w = w' := by
  go_enter Try.func82, Try.ntmps82
  go_wp2
  go_ret
  exact ⟨rfl, rfl⟩
theorem qual_97 (b : Nat) (w : World) (v : Value) (h : w.cell? ⟨b, 0, none⟩ = some v) : Calls Try.prog 97 #[.pointer (some ⟨b, 0, none⟩)] w fun e w' => e = .returned v ∧ w = w' := by
  go_enter Try.func97, Try.ntmps97
  go_wp2
  go_ret
  exact ⟨rfl, rfl⟩

theorem noQ65 (v : Value) (w : World) : (Instr.typeAssert (.iface 65 v) 35 137 true).run Try.prog w = .ok (.tuple #[.nilIface, .bool false]) w := run_typeAssert_lacksB Try.underlying137 (by kernel_rfl) (by kernel_rfl) v 35 w
theorem noQ69 (v : Value) (w : World) : (Instr.typeAssert (.iface 69 v) 35 137 true).run Try.prog w = .ok (.tuple #[.nilIface, .bool false]) w := run_typeAssert_lacksB Try.underlying137 (by kernel_rfl) (by kernel_rfl) v 35 w
theorem noQ62 (v : Value) (w : World) : (Instr.typeAssert (.iface 62 v) 35 137 true).run Try.prog w = .ok (.tuple #[.nilIface, .bool false]) w := run_typeAssert_lacksB Try.underlying137 (by kernel_rfl) (by kernel_rfl) v 35 w
theorem noQ91 (v : Value) (w : World) : (Instr.typeAssert (.iface 91 v) 35 137 true).run Try.prog w = .ok (.tuple #[.nilIface, .bool false]) w := run_typeAssert_lacksB Try.underlying137 (by kernel_rfl) (by kernel_rfl) v 35 w
theorem isQ94 (v : Value) (w : World) : (Instr.typeAssert (.iface 94 v) 35 137 true).run Try.prog w = .ok (.tuple #[.iface 94 v, .bool true]) w := run_typeAssert_hasB Try.underlying137 (by kernel_rfl) v 35 w
theorem isQ97 (v : Value) (w : World) : (Instr.typeAssert (.iface 97 v) 35 137 true).run Try.prog w = .ok (.tuple #[.iface 97 v, .bool true]) w := run_typeAssert_hasB Try.underlying137 (by kernel_rfl) v 35 w
theorem isQ99 (v : Value) (w : World) : (Instr.typeAssert (.iface 99 v) 35 137 true).run Try.prog w = .ok (.tuple #[.iface 99 v, .bool true]) w := run_typeAssert_hasB Try.underlying137 (by kernel_rfl) v 35 w
theorem isQ121 (v : Value) (w : World) : (Instr.typeAssert (.iface 121 v) 35 137 true).run Try.prog w = .ok (.tuple #[.iface 121 v, .bool true]) w := run_typeAssert_hasB Try.underlying137 (by kernel_rfl) v 35 w

/-- Where a peeled type's block leads. -/
theorem linked_next {w : World} {a : Nat} {l : List Ty} {B : Nat → Nat} (hB : Built w a l B) {j q r : Nat} (hj : j < l.length) (h : Chain l (j + 1) (q + 1) r) :
    (r = 0 ∧ j = q) ∨ ∃ j' r', r = r' + 1 ∧ j' < l.length ∧ Chain l (j' + 1) (q + 1) r' ∧
      (((nthT l j).kind = 8 ∧ w.cell? ⟨B j, 1, none⟩ = some (.iface (tidOf (nthT l j').kind) (.pointer (some ⟨B j', 0, none⟩)))) ∨
       (((nthT l j).kind = 9 ∨ (nthT l j).kind = 10 ∨ (nthT l j).kind = 11 ∨ (nthT l j).kind = 18) ∧ w.cell? ⟨B j, 0, none⟩ = some (.iface (tidOf (nthT l j').kind) (.pointer (some ⟨B j', 0, none⟩))))) := by
  generalize hn : (j : Int) + 1 = n at h
  generalize hm : (q : Int) + 1 = m at h
  cases h with
  | done m h0 h1 h => exact .inl ⟨rfl, by omega⟩
  | step n m k h0 h1 hp h =>
    subst hn
    rw [kindF_at hj] at hp
    rw [show ((j : Int) + 1 - 1).toNat = j by omega] at h
    have hof : 1 ≤ (nthT l j).of ∧ (nthT l j).of ≤ l.length := by
      cases h with
      | done m h0 h1 h => omega
      | step n m k h0 h1 hp h => exact ⟨h0, h1⟩
    obtain ⟨j', hj'⟩ : ∃ j' : Nat, (nthT l j).of = j' + 1 := ⟨((nthT l j).of - 1).toNat, by omega⟩
    obtain ⟨cs, h1, _, h3, h4⟩ := (hB.lnk j hj).blk
    rw [hj'] at h h3 h4 hof
    subst hm
    refine .inr ⟨j', k, rfl, by omega, h, ?_⟩
    have hpk : (nthT l j).kind = 8 ∨ ((nthT l j).kind = 9 ∨ (nthT l j).kind = 10 ∨ (nthT l j).kind = 11 ∨ (nthT l j).kind = 18) := by simpa [peeledF] using hp
    have e : ((j' : Int) + 1 - 1).toNat = j' := by omega
    rcases hpk with hpk | hpk
    · obtain ⟨T, p, q1, _, q3⟩ := h3 (.inr hpk)
      obtain ⟨rfl, rfl⟩ := q3 (by omega)
      rw [e] at q1
      exact .inl ⟨hpk, by rw [blk_cell h1]; exact q1⟩
    · obtain ⟨T, p, q1, _, q3⟩ := h4 hpk
      obtain ⟨rfl, rfl⟩ := q3 (by omega)
      rw [e] at q1
      exact .inr ⟨hpk, by rw [blk_cell h1]; exact q1⟩

end Go.Proofs.Ytoeilapjihbfhaa
