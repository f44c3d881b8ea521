/- What typeOk tells of a type. -/
import Derived.Test.YtoeilapjihbfhaaOkC
namespace Go.Proofs.Ytoeilapjihbfhaa
open Go.RowKit

structure TOk (n : Nat) (t : Ty) : Prop where
  k0 : 1 ≤ t.kind
  k1 : t.kind ≤ 19
  k17 : t.kind ≠ 17
  of0 : 0 ≤ t.of
  of1 : t.of ≤ n
  idx0 : 0 ≤ t.idx
  idx1 : t.idx ≤ n
  mem8 : t.mem.length ≤ 8
  enc0 : 0 ≤ t.enc
  enc1 : t.enc ≤ 4
  sz0 : 0 ≤ t.size
  sz1 : t.size ≤ 1048576
  d : DOk n t

def TPost (n : Nat) (t : Ty) (w : World) (e : Ending) (w' : World) : Prop := ∃ b, e = .returned (.bool b) ∧ (b = true → TOk n t) ∧ Below w.heap.size w w'

theorem tok_mk {n : Nat} {kind : Int} {nm : ByteArray} {size enc flag of idx : Int} {mem : List Mb} (hd : DOk n ⟨kind, nm, size, enc, flag, of, idx, mem⟩) (k0 : 1 ≤ kind ∧ kind ≤ 19 ∧ ¬ kind = 17) (ho : 0 ≤ of ∧ of ≤ n) (hi : 0 ≤ idx ∧ idx ≤ n) (hm : mem.length ≤ 8) (he : kind = 1 ∨ enc = 0) (hs : 0 ≤ size ∧ size ≤ 1048576) :
    TOk n ⟨kind, nm, size, enc, flag, of, idx, mem⟩ := by
  refine ⟨k0.1, k0.2.1, k0.2.2, ho.1, ho.2, hi.1, hi.2, hm, ?_, ?_, hs.1, hs.2, hd⟩
  · rcases he with he | he
    · exact (hd.enc he).1
    · exact Int.le_of_eq he.symm
  · rcases he with he | he
    · exact (hd.enc he).2
    · show enc ≤ 4
      omega

theorem dok_swap {n : Nat} {kind : Int} {nm nm' : ByteArray} {size enc flag of idx size' enc' of' idx' : Int} {mem : List Mb} (h : DOk n ⟨kind, nm, size, enc, flag, of, idx, mem⟩) (hs : size = size') (he : enc = enc') :
    DOk n ⟨kind, nm', size', enc', flag, of', idx', mem⟩ := by
  subst hs; subst he
  exact ⟨h.mems, h.fl0, h.fl1, h.int, h.enc, h.enum, h.enum64⟩

end Go.Proofs.Ytoeilapjihbfhaa
