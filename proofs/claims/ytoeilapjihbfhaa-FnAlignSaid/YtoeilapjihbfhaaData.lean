/- The data of the statement FnAlign: types and members as plain Lean data, and what it means that memory reads as them. -/
import Derived.Test.YtoeilapjihbfhaaChecked
import Derived.WalkKit
import Derived.KernelRfl
namespace Go.Proofs.Ytoeilapjihbfhaa
open Go.RowKit

/-- A member of a type, as data. -/
structure Mb where
  name : ByteArray
  of : Int
  off : Int
  bits : Int
  val : Int
/-- A type, as data. -/
structure Ty where
  kind : Int
  name : ByteArray
  size : Int
  enc : Int
  flag : Int
  of : Int
  idx : Int
  mem : List Mb

def mz : Mb := ⟨ByteArray.empty, 0, 0, 0, 0⟩
def tz : Ty := ⟨0, ByteArray.empty, 0, 0, 0, 0, 0, []⟩
/-- The member, the type at a place (its own words, so that the walk's simp leaves them alone). -/
def nthM (l : List Mb) (k : Nat) : Mb := l.getD k mz
def nthT (l : List Ty) (k : Nat) : Ty := l.getD k tz

/-- A member lies at place o of block b. -/
structure MbAt (w : World) (b o : Nat) (m : Mb) : Prop where
  c0 : w.cell? ⟨b, o, none⟩ = some (.string m.name)
  c1 : w.cell? ⟨b, o + 1, none⟩ = some (.int .i64 m.of)
  c2 : w.cell? ⟨b, o + 2, none⟩ = some (.int .i64 m.off)
  c3 : w.cell? ⟨b, o + 3, none⟩ = some (.int .i64 m.bits)
  c4 : w.cell? ⟨b, o + 4, none⟩ = some (.int .i64 m.val)
  sz : m.name.size ≤ 9223372036854775807

/-- A slice's address leads to these members. -/
structure Mems (w : World) (A : Option Addr) (ms : List Mb) : Prop where
  len : ms.length ≤ 9223372036854775807
  mem : ms ≠ [] → ∃ b o, A = some ⟨b, o, none⟩ ∧ ∀ j, j < ms.length → MbAt w b (o + j * 5) (nthM ms j)

/-- A type lies at place o of block b; A, c: where its members lie, and their capacity. -/
structure TyAt (w : World) (b o : Nat) (t : Ty) (A : Option Addr) (c : Nat) : Prop where
  c0 : w.cell? ⟨b, o, none⟩ = some (.int .i64 t.kind)
  c1 : w.cell? ⟨b, o + 1, none⟩ = some (.string t.name)
  c2 : w.cell? ⟨b, o + 2, none⟩ = some (.int .i64 t.size)
  c3 : w.cell? ⟨b, o + 3, none⟩ = some (.int .i64 t.enc)
  c4 : w.cell? ⟨b, o + 4, none⟩ = some (.int .i64 t.flag)
  c5 : w.cell? ⟨b, o + 5, none⟩ = some (.int .i64 t.of)
  c6 : w.cell? ⟨b, o + 6, none⟩ = some (.int .i64 t.idx)
  c7 : w.cell? ⟨b, o + 7, none⟩ = some (.slice A t.mem.length c)
  mem : Mems w A t.mem
  sz : t.name.size ≤ 9223372036854775807

/-- A slice's address leads to these types. -/
structure Types (w : World) (A : Option Addr) (l : List Ty) : Prop where
  len : l.length ≤ 9223372036854775807
  mem : l ≠ [] → ∃ b o, A = some ⟨b, o, none⟩ ∧ ∀ j, j < l.length → ∃ B c, TyAt w b (o + j * 8) (nthT l j) B c

theorem keep_cell {w w1 : World} (h : Below w.heap.size w w1) {a : Addr} {v : Value} (hc : w.cell? a = some v) : w1.cell? a = some v :=
  (h.cell (World.block_lt_of_cell? w a hc)).trans hc

theorem MbAt.below {w w1 : World} {b o : Nat} {m : Mb} (h : MbAt w b o m) (hb : Below w.heap.size w w1) : MbAt w1 b o m :=
  ⟨keep_cell hb h.c0, keep_cell hb h.c1, keep_cell hb h.c2, keep_cell hb h.c3, keep_cell hb h.c4, h.sz⟩

theorem Mems.below {w w1 : World} {A : Option Addr} {ms : List Mb} (h : Mems w A ms) (hb : Below w.heap.size w w1) : Mems w1 A ms :=
  ⟨h.len, fun hn => by
    obtain ⟨b, o, e, hc⟩ := h.mem hn
    exact ⟨b, o, e, fun j hj => (hc j hj).below hb⟩⟩

theorem TyAt.below {w w1 : World} {b o : Nat} {t : Ty} {A : Option Addr} {c : Nat} (h : TyAt w b o t A c) (hb : Below w.heap.size w w1) : TyAt w1 b o t A c :=
  ⟨keep_cell hb h.c0, keep_cell hb h.c1, keep_cell hb h.c2, keep_cell hb h.c3, keep_cell hb h.c4, keep_cell hb h.c5, keep_cell hb h.c6, keep_cell hb h.c7, h.mem.below hb, h.sz⟩

theorem Types.below {w w1 : World} {A : Option Addr} {l : List Ty} (h : Types w A l) (hb : Below w.heap.size w w1) : Types w1 A l :=
  ⟨h.len, fun hn => by
    obtain ⟨b, o, e, hc⟩ := h.mem hn
    refine ⟨b, o, e, fun j hj => ?_⟩
    obtain ⟨B, c, ht⟩ := hc j hj
    exact ⟨B, c, ht.below hb⟩⟩

theorem Mems.at_ {w : World} {A : Option Addr} {ms : List Mb} (h : Mems w A ms) {k : Nat} (hk : k < ms.length) : ∃ b o, A = some ⟨b, o, none⟩ ∧ MbAt w b (o + k * 5) (nthM ms k) := by
  obtain ⟨b, o, e, hc⟩ := h.mem (by intro e; subst e; simp at hk)
  exact ⟨b, o, e, hc k hk⟩
theorem Types.at_ {w : World} {A : Option Addr} {l : List Ty} (h : Types w A l) {k : Nat} (hk : k < l.length) : ∃ b o B c, A = some ⟨b, o, none⟩ ∧ TyAt w b (o + k * 8) (nthT l k) B c := by
  obtain ⟨b, o, e, hc⟩ := h.mem (by intro e; subst e; simp at hk)
  obtain ⟨B, c, ht⟩ := hc k hk
  exact ⟨b, o, B, c, e, ht⟩

/-- A member, a type as a value. -/
abbrev mbV (m : Mb) : Value := .agg #[.string m.name, .int .i64 m.of, .int .i64 m.off, .int .i64 m.bits, .int .i64 m.val]
abbrev tyV (t : Ty) (A : Option Addr) (c : Nat) : Value :=
  .agg #[.int .i64 t.kind, .string t.name, .int .i64 t.size, .int .i64 t.enc, .int .i64 t.flag, .int .i64 t.of, .int .i64 t.idx, .slice A t.mem.length c]
abbrev tyCells (t : Ty) (A : Option Addr) (c : Nat) : Array Value :=
  #[.int .i64 t.kind, .string t.name, .int .i64 t.size, .int .i64 t.enc, .int .i64 t.flag, .int .i64 t.of, .int .i64 t.idx, .slice A t.mem.length c]
abbrev mbCells (m : Mb) : Array Value := #[.string m.name, .int .i64 m.of, .int .i64 m.off, .int .i64 m.bits, .int .i64 m.val]

/-- A call hands back some bool of which this holds, and what was there stays. -/
def ABool (p : Bool → Prop) (w : World) (e : Ending) (w' : World) : Prop := ∃ b, e = .returned (.bool b) ∧ p b ∧ Below w.heap.size w w'
/-- .. whichever. -/
def SomeBool (w : World) (e : Ending) (w' : World) : Prop := ∃ b, e = .returned (.bool b) ∧ Below w.heap.size w w'

/-- A call hands back some bool, and the world is the old one. -/
def SameBool (w : World) (e : Ending) (w' : World) : Prop := ∃ b, e = .returned (.bool b) ∧ w = w'

/-- A post behind a letter: the walk's simp does not write into it what a way has learnt. -/
def Ends (R : Ending → World → Prop) (e : Ending) (w : World) : Prop := R e w
theorem calls_ends {P : Program} {f : Nat} {args : Array Value} {w : World} {R : Ending → World → Prop}
    (h : ∀ R' : Ending → World → Prop, Hid (∀ e w', R e w' → R' e w') → Calls P f args w (Ends R')) : Calls P f args w R := h R (fun _ _ h => h)

theorem hid {p : Prop} (h : p) : Hid p := h
theorem below_alloc {w W : World} (h : Below w.heap.size w W) (o : Obj) : Below w.heap.size w (W.alloc o) := h.alloc h.size o
theorem below_then {w w1 w2 : World} (h : Below w.heap.size w w1) (k : Below w1.heap.size w1 w2) : Below w.heap.size w w2 :=
  h.trans (k.mono h.size)

end Go.Proofs.Ytoeilapjihbfhaa
