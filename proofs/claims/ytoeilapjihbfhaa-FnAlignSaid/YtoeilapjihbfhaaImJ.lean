/- impl.made and impl.fill by one contract for all kinds. -/
import Derived.Test.YtoeilapjihbfhaaImE
import Derived.Test.YtoeilapjihbfhaaImI
namespace Go.Proofs.Ytoeilapjihbfhaa
open Go.RowKit

/-- A type's block as it was made. -/
def Fresh (w : World) (b : Nat) (t : Ty) : Prop := w.heap[b]? = some (.cells (bodyOf t) (sidOf t.kind) (0, 0))

def MadePost (t : Ty) (w : World) (e : Ending) (w' : World) : Prop :=
  ∃ q, e = .returned (.iface (tidOf t.kind) (.pointer (some ⟨q, 0, none⟩))) ∧ w.heap.size ≤ q ∧ Fresh w' q t ∧ Below w.heap.size w w'

theorem made_some (t : Ty) (At : Option Addr) (ct : Nat) (w : World) (n : Nat) (ht : TOk n t) : Calls Try.prog 27 #[tyV t At ct] w (MadePost t w) := by
  refine (made_calls t At ct w n ht).mono ?_
  rintro e w' ⟨rfl, rfl⟩
  refine ⟨_, rfl, by omega, ?_, below_alloc (box_below _ _) _⟩
  have h := heap_alloc_new (w.alloc (.cells (tyCells t At ct) 30)) (.cells (bodyOf t) (sidOf t.kind))
  rw [World.size_alloc] at h
  exact h

theorem fill_calls (b g a : Nat) (l : List Ty) (B : Nat → Nat) (t : Ty) (At : Option Addr) (ct : Nat) (w0 w : World) (ht : TOk l.length t) (hb : Fresh w b t)
    (hA : Arena w g a l B) (hgb : g ≠ b) (hab : a ≠ b) (hl : l.length ≤ 30) (hM : Mems w0 At t.mem) (hw : Below w0.heap.size w0 w) (hb0 : w0.heap.size ≤ b) :
    Calls Try.prog 29 #[.iface (tidOf t.kind) (.pointer (some ⟨b, 0, none⟩)), tyV t At ct, .func (.func 28) #[] #[.pointer (some ⟨g, 0, none⟩)]] w (FillPost b l B t w) := by
  have hk := kinds_are ht.k0 ht.k1 ht.k17
  have ho0 := ht.of0
  have ho1 := ht.of1
  have hi0 := ht.idx0
  have hi1 := ht.idx1
  have h8 := ht.mem8
  have hmo := ht.d.mems
  have hMw := hM.below hw
  obtain ⟨kind, nm, size, enc, flag, of, idx, mem⟩ := t
  dsimp only at hk ho0 ho1 hi0 hi1 h8 hmo
  rcases hk with rfl | rfl | rfl | rfl | rfl | rfl | rfl | rfl | rfl | rfl | rfl | rfl | rfl | rfl | rfl | rfl | rfl | rfl
  · exact fill_1 b g a l B nm size enc flag of idx mem At ct w hb
  · exact fill_2 b g a l B nm size enc flag of idx mem At ct w hb hA hl ho0 ho1
  · exact fill_3 b g a l B nm size enc flag of idx mem At ct w hb hA hl ho0 ho1 hi0 hi1
  · exact fill_4 b g a l B nm size enc flag of idx mem At ct w hb hA hl hMw h8 hmo
  · exact fill_5 b g a l B nm size enc flag of idx mem At ct w hb hA hl hMw h8 hmo
  · exact fill_6 b g l B 6 nm size enc flag of idx mem At ct w0 w (.inl rfl) hb hM hw hb0 h8
  · exact fill_7 b g a l B nm size enc flag of idx mem At ct w hb
  · exact fill_8 b g a l B nm size enc flag of idx mem At ct w hb hA hl ho0 ho1
  · exact fill_9 b g a l B nm size enc flag of idx mem At ct w hb hA hl ho0 ho1
  · exact fill_10 b g a l B nm size enc flag of idx mem At ct w hb hA hl ho0 ho1
  · exact fill_11 b g a l B nm size enc flag of idx mem At ct w hb hA hl ho0 ho1
  · exact fill_12 b g a l B nm size enc flag of idx mem At ct w hb hA hl ho0 ho1
  · exact fill_13 b g a l B nm size enc flag of idx mem At ct w0 w hb hA hgb hab hl ho0 ho1 hM hw hb0 h8 hmo
  · exact fill_14 b g a l B nm size enc flag of idx mem At ct w hb hA hl ho0 ho1
  · exact fill_15 b g a l B nm size enc flag of idx mem At ct w0 w hb hA hgb hab hl hM hw hb0 h8 hmo
  · exact fill_16 b g a l B nm size enc flag of idx mem At ct w hb
  · exact fill_18 b g a l B nm size enc flag of idx mem At ct w hb hA hl ho0 ho1
  · exact fill_6 b g l B 19 nm size enc flag of idx mem At ct w0 w (.inr rfl) hb hM hw hb0 h8

end Go.Proofs.Ytoeilapjihbfhaa
