/- The walk of impl.fill: it writes into the type's own block alone, and links it to the types that it is of. -/
import Derived.Test.YtoeilapjihbfhaaImC
import Derived.Stop.Asserts
namespace Go.Proofs.Ytoeilapjihbfhaa
open Go.RowKit

/-- Behind fill: a type's block leads on as the type says. -/
structure Linked (w : World) (b : Nat) (l : List Ty) (B : Nat → Nat) (t : Ty) : Prop where
  blk : ∃ cs, w.heap[b]? = some (.cells cs (sidOf t.kind) (0, 0)) ∧
    (t.kind = 1 ∨ t.kind = 6 ∨ t.kind = 19 → cs[1]? = some (.int .u32 t.size)) ∧
    (t.kind = 3 ∨ t.kind = 8 → ∃ T p, cs[1]? = some (.iface T (.pointer (some p))) ∧ AtV l B t.of T p) ∧
    (t.kind = 9 ∨ t.kind = 10 ∨ t.kind = 11 ∨ t.kind = 18 → ∃ T p, cs[0]? = some (.iface T (.pointer (some p))) ∧ AtV l B t.of T p)

def FillPost (b : Nat) (l : List Ty) (B : Nat → Nat) (t : Ty) (w : World) (e : Ending) (w' : World) : Prop :=
  e = .returned (.tuple #[]) ∧ w.grownBy w' (some b) ∧ Linked w' b l B t

theorem as_yes {a e : Nat} (hu : Try.prog.underlying a = some (.pointer e)) (v : Value) (w : World) : (Instr.typeAssert (.iface a v) 35 a true).run Try.prog w = .ok (.tuple #[v, .bool true]) w := by
  simp [Instr.typeAssert, run_underlying hu]
theorem as_no {a e : Nat} (hu : Try.prog.underlying a = some (.pointer e)) (hz : (Try.prog.info? a).map (·.zero) = some (some (.pointer none))) (T : Nat) (v : Value) (w : World) (h : T ≠ a) :
    (Instr.typeAssert (.iface T v) 35 a true).run Try.prog w = .ok (.tuple #[.pointer none, .bool false]) w := by
  obtain ⟨j, hj, hz'⟩ := Option.map_eq_some_iff.1 hz
  simp [Instr.typeAssert, run_underlying hu, h, zeroValue, typeInfo, hj, hz']
theorem yes74 (v : Value) (w : World) : (Instr.typeAssert (.iface 74 v) 35 74 true).run Try.prog w = .ok (.tuple #[v, .bool true]) w := as_yes Try.underlying74 v w
theorem no74 (T : Nat) (v : Value) (w : World) (h : T ≠ 74) : (Instr.typeAssert (.iface T v) 35 74 true).run Try.prog w = .ok (.tuple #[.pointer none, .bool false]) w := as_no Try.underlying74 (by kernel_rfl) T v w h
theorem yes69 (v : Value) (w : World) : (Instr.typeAssert (.iface 69 v) 35 69 true).run Try.prog w = .ok (.tuple #[v, .bool true]) w := as_yes Try.underlying69 v w
theorem no69 (T : Nat) (v : Value) (w : World) (h : T ≠ 69) : (Instr.typeAssert (.iface T v) 35 69 true).run Try.prog w = .ok (.tuple #[.pointer none, .bool false]) w := as_no Try.underlying69 (by kernel_rfl) T v w h
theorem yes77 (v : Value) (w : World) : (Instr.typeAssert (.iface 77 v) 35 77 true).run Try.prog w = .ok (.tuple #[v, .bool true]) w := as_yes Try.underlying77 v w
theorem no77 (T : Nat) (v : Value) (w : World) (h : T ≠ 77) : (Instr.typeAssert (.iface T v) 35 77 true).run Try.prog w = .ok (.tuple #[.pointer none, .bool false]) w := as_no Try.underlying77 (by kernel_rfl) T v w h
theorem yes82 (v : Value) (w : World) : (Instr.typeAssert (.iface 82 v) 35 82 true).run Try.prog w = .ok (.tuple #[v, .bool true]) w := as_yes Try.underlying82 v w
theorem no82 (T : Nat) (v : Value) (w : World) (h : T ≠ 82) : (Instr.typeAssert (.iface T v) 35 82 true).run Try.prog w = .ok (.tuple #[.pointer none, .bool false]) w := as_no Try.underlying82 (by kernel_rfl) T v w h
theorem yes62 (v : Value) (w : World) : (Instr.typeAssert (.iface 62 v) 35 62 true).run Try.prog w = .ok (.tuple #[v, .bool true]) w := as_yes Try.underlying62 v w
theorem no62 (T : Nat) (v : Value) (w : World) (h : T ≠ 62) : (Instr.typeAssert (.iface T v) 35 62 true).run Try.prog w = .ok (.tuple #[.pointer none, .bool false]) w := as_no Try.underlying62 (by kernel_rfl) T v w h
theorem yes91 (v : Value) (w : World) : (Instr.typeAssert (.iface 91 v) 35 91 true).run Try.prog w = .ok (.tuple #[v, .bool true]) w := as_yes Try.underlying91 v w
theorem no91 (T : Nat) (v : Value) (w : World) (h : T ≠ 91) : (Instr.typeAssert (.iface T v) 35 91 true).run Try.prog w = .ok (.tuple #[.pointer none, .bool false]) w := as_no Try.underlying91 (by kernel_rfl) T v w h
theorem yes94 (v : Value) (w : World) : (Instr.typeAssert (.iface 94 v) 35 94 true).run Try.prog w = .ok (.tuple #[v, .bool true]) w := as_yes Try.underlying94 v w
theorem no94 (T : Nat) (v : Value) (w : World) (h : T ≠ 94) : (Instr.typeAssert (.iface T v) 35 94 true).run Try.prog w = .ok (.tuple #[.pointer none, .bool false]) w := as_no Try.underlying94 (by kernel_rfl) T v w h
theorem yes97 (v : Value) (w : World) : (Instr.typeAssert (.iface 97 v) 35 97 true).run Try.prog w = .ok (.tuple #[v, .bool true]) w := as_yes Try.underlying97 v w
theorem no97 (T : Nat) (v : Value) (w : World) (h : T ≠ 97) : (Instr.typeAssert (.iface T v) 35 97 true).run Try.prog w = .ok (.tuple #[.pointer none, .bool false]) w := as_no Try.underlying97 (by kernel_rfl) T v w h
theorem yes99 (v : Value) (w : World) : (Instr.typeAssert (.iface 99 v) 35 99 true).run Try.prog w = .ok (.tuple #[v, .bool true]) w := as_yes Try.underlying99 v w
theorem no99 (T : Nat) (v : Value) (w : World) (h : T ≠ 99) : (Instr.typeAssert (.iface T v) 35 99 true).run Try.prog w = .ok (.tuple #[.pointer none, .bool false]) w := as_no Try.underlying99 (by kernel_rfl) T v w h
theorem yes101 (v : Value) (w : World) : (Instr.typeAssert (.iface 101 v) 35 101 true).run Try.prog w = .ok (.tuple #[v, .bool true]) w := as_yes Try.underlying101 v w
theorem no101 (T : Nat) (v : Value) (w : World) (h : T ≠ 101) : (Instr.typeAssert (.iface T v) 35 101 true).run Try.prog w = .ok (.tuple #[.pointer none, .bool false]) w := as_no Try.underlying101 (by kernel_rfl) T v w h
theorem yes106 (v : Value) (w : World) : (Instr.typeAssert (.iface 106 v) 35 106 true).run Try.prog w = .ok (.tuple #[v, .bool true]) w := as_yes Try.underlying106 v w
theorem no106 (T : Nat) (v : Value) (w : World) (h : T ≠ 106) : (Instr.typeAssert (.iface T v) 35 106 true).run Try.prog w = .ok (.tuple #[.pointer none, .bool false]) w := as_no Try.underlying106 (by kernel_rfl) T v w h
theorem yes110 (v : Value) (w : World) : (Instr.typeAssert (.iface 110 v) 35 110 true).run Try.prog w = .ok (.tuple #[v, .bool true]) w := as_yes Try.underlying110 v w
theorem no110 (T : Nat) (v : Value) (w : World) (h : T ≠ 110) : (Instr.typeAssert (.iface T v) 35 110 true).run Try.prog w = .ok (.tuple #[.pointer none, .bool false]) w := as_no Try.underlying110 (by kernel_rfl) T v w h
theorem yes114 (v : Value) (w : World) : (Instr.typeAssert (.iface 114 v) 35 114 true).run Try.prog w = .ok (.tuple #[v, .bool true]) w := as_yes Try.underlying114 v w
theorem no114 (T : Nat) (v : Value) (w : World) (h : T ≠ 114) : (Instr.typeAssert (.iface T v) 35 114 true).run Try.prog w = .ok (.tuple #[.pointer none, .bool false]) w := as_no Try.underlying114 (by kernel_rfl) T v w h
theorem yes121 (v : Value) (w : World) : (Instr.typeAssert (.iface 121 v) 35 121 true).run Try.prog w = .ok (.tuple #[v, .bool true]) w := as_yes Try.underlying121 v w
theorem no121 (T : Nat) (v : Value) (w : World) (h : T ≠ 121) : (Instr.typeAssert (.iface T v) 35 121 true).run Try.prog w = .ok (.tuple #[.pointer none, .bool false]) w := as_no Try.underlying121 (by kernel_rfl) T v w h
theorem yes65 (v : Value) (w : World) : (Instr.typeAssert (.iface 65 v) 35 65 true).run Try.prog w = .ok (.tuple #[v, .bool true]) w := as_yes Try.underlying65 v w
theorem no65 (T : Nat) (v : Value) (w : World) (h : T ≠ 65) : (Instr.typeAssert (.iface T v) 35 65 true).run Try.prog w = .ok (.tuple #[.pointer none, .bool false]) w := as_no Try.underlying65 (by kernel_rfl) T v w h

/-! A block that is known whole -/
theorem blk_below {w w1 : World} {b : Nat} {o : Obj} (h : Below w.heap.size w w1) (hb : w.heap[b]? = some o) : w1.heap[b]? = some o :=
  (h.block b (lt_of_block hb)).trans hb
theorem blk_cell {w : World} {b t : Nat} {cs : Array Value} (hb : w.heap[b]? = some (.cells cs t (0, 0))) : ∀ i, w.cell? ⟨b, i, none⟩ = cs[i]? := fun i => by simp [World.cell?, hb]
theorem blk_free {w : World} {b t : Nat} {cs : Array Value} (hb : w.heap[b]? = some (.cells cs t (0, 0))) : ∀ i, w.frozen? ⟨b, i, none⟩ = false := fun i => by simp [World.frozen?, hb]
theorem blk_setCell {w : World} {b t : Nat} {cs : Array Value} (hb : w.heap[b]? = some (.cells cs t (0, 0))) (i : Nat) (v : Value) : (w.setCell ⟨b, i, none⟩ v).heap[b]? = some (.cells (cs.setIfInBounds i v) t (0, 0)) := by
  simp [World.setCell, Array.getElem?_modify, hb]
theorem grown_setCell (w : World) (a : Addr) (v : Value) : w.grownBy (w.setCell a v) (some a.block) :=
  ⟨rfl, rfl, rfl, by simp, fun k _ hne => Below.heap_setCell _ _ _ _ (fun e => hne (by rw [e]))⟩

end Go.Proofs.Ytoeilapjihbfhaa
