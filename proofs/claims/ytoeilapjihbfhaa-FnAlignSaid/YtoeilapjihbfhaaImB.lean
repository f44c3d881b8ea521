/- The walk of impl.made: of a type of which is spoken it makes one block, and an interface value that points to it. -/
import Derived.Test.YtoeilapjihbfhaaImA
namespace Go.Proofs.Ytoeilapjihbfhaa
open Go.RowKit

/-- The number of the pointer type, of the struct type, that a kind is made as. -/
def tidOf (k : Int) : Nat :=
  if k = 1 then 65 else if k = 2 then 74 else if k = 3 then 69 else if k = 4 then 77 else if k = 5 then 82 else if k = 6 then 62 else if k = 7 then 87 else if k = 8 then 91 else if k = 9 then 94
  else if k = 10 then 97 else if k = 11 then 99 else if k = 12 then 101 else if k = 13 then 106 else if k = 14 then 110 else if k = 15 then 114 else if k = 16 then 118 else if k = 18 then 121 else 62
def sidOf (k : Int) : Nat :=
  if k = 1 then 68 else if k = 2 then 76 else if k = 3 then 71 else if k = 4 then 81 else if k = 5 then 83 else if k = 6 then 86 else if k = 7 then 90 else if k = 8 then 93 else if k = 9 then 96
  else if k = 10 then 98 else if k = 11 then 100 else if k = 12 then 105 else if k = 13 then 109 else if k = 14 then 113 else if k = 15 then 117 else if k = 16 then 120 else if k = 18 then 123 else 86
/-- What the block holds when it has just been made. -/
def bodyOf (t : Ty) : Array Value :=
  if t.kind = 1 then #[.string t.name, .int .u32 t.size, .int .u8 t.enc]
  else if t.kind = 2 then #[.nilIface]
  else if t.kind = 3 then #[.nilIface, .nilIface, .int .u32 t.size]
  else if t.kind = 4 then #[.string t.name, .int .u32 t.size, .slice none 0 0, .slice none 0 0]
  else if t.kind = 5 then #[.string t.name, .int .u32 t.size, .slice none 0 0, .slice none 0 0]
  else if t.kind = 6 then #[.string t.name, .int .u32 t.size, .bool (t.flag == 1), .slice none 0 0]
  else if t.kind = 7 then #[.string t.name, .int .i64 t.flag]
  else if t.kind = 8 then #[.string t.name, .nilIface, .slice none 0 0]
  else if t.kind = 9 then #[.nilIface]
  else if t.kind = 10 then #[.nilIface]
  else if t.kind = 11 then #[.nilIface]
  else if t.kind = 12 then #[.string t.name, .nilIface, .int .i64 t.flag, .slice none 0 0, .slice none 0 0]
  else if t.kind = 13 then #[.nilIface, .slice none 0 0]
  else if t.kind = 14 then #[.string t.name, .nilIface, .int .i64 t.flag, .slice none 0 0]
  else if t.kind = 15 then #[.string t.name, .int .u32 t.size, .slice none 0 0]
  else if t.kind = 16 then #[.string t.name, .int .u32 t.size]
  else if t.kind = 18 then #[.nilIface, .string t.name]
  else #[.string t.name, .int .u32 t.size, .bool (t.flag == 1), .slice none 0 0]

def Made (t : Ty) (A : Option Addr) (c : Nat) (w : World) (e : Ending) (w' : World) : Prop :=
  e = .returned (.iface (tidOf t.kind) (.pointer (some ⟨w.heap.size + 1, 0, none⟩))) ∧ (w.alloc (.cells (tyCells t A c) 30)).alloc (.cells (bodyOf t) (sidOf t.kind)) = w'

set_option maxRecDepth 100000 in
set_option maxHeartbeats 4000000 in
theorem made_calls (t : Ty) (At : Option Addr) (ct : Nat) (w : World) (n : Nat) (ht : TOk n t) : Calls Try.prog 27 #[tyV t At ct] w (Made t At ct w) := by
  have hk := kinds_are ht.k0 ht.k1 ht.k17
  obtain ⟨kind, nm, size, enc, flag, of, idx, mem⟩ := t
  have he0 := ht.enc0
  have he1 := ht.enc1
  have hs0 := ht.sz0
  have hs1 := ht.sz1
  clear ht
  dsimp only at *
  refine calls_ends fun P HP => ?_
  rcases hk with rfl | rfl | rfl | rfl | rfl | rfl | rfl | rfl | rfl | rfl | rfl | rfl | rfl | rfl | rfl | rfl | rfl | rfl
  all_goals
    go_enter Try.func27, Try.ntmps27
    go_wp2
    go_ret
    exact HP.out _ _ ⟨rfl, rfl⟩
end Go.Proofs.Ytoeilapjihbfhaa
