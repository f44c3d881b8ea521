/- The walk of impl.one. -/
import Derived.Test.YtoeilapjihbfhaaImK
import Derived.WideLaws
import Derived.OwnWalk
namespace Go.Proofs.Ytoeilapjihbfhaa
open Go.RowKit

def OnePost (l : List Ty) (j : Nat) (w : World) (e : Ending) (w' : World) : Prop :=
  ∃ a B s, e = .returned (.tuple #[.iface (tidOf (nthT l j).kind) (.pointer (some ⟨B j, 0, none⟩)), s, .bool true]) ∧ Built w' a l B ∧ Below w.heap.size w w'

set_option maxHeartbeats 4000000 in
theorem one_calls (A : Option Addr) (c : Nat) (l : List Ty) (j : Nat) (w : World) (h : Types w A l) (hok : LOk l) (hj : j < l.length) : Calls Try.prog 12 #[.slice A l.length c, .int .i64 (j + 1)] w (OnePost l j w) := by
  refine calls_ends fun P HP => ?_
  have hl := hok.len
  have H := hid h
  have HOK := hid hok
  clear h hok
  go_enter Try.func12, Try.ntmps12
  go_wp2_with (go_at_call 22; refine (build_calls A c l w H.out HOK.out).mono ?_; rintro e w' ⟨a, B, rfl, hb, hbel⟩; have ho := hb.out j hj; have HB := hid hb; have HBE := hid hbel; clear hb hbel)
  go_ret3
  exact HP.out _ _ ⟨a, B, _, rfl, HB.out, HBE.out⟩

end Go.Proofs.Ytoeilapjihbfhaa
