/- The argument opened: a slice of types that the row reads leads to types of which the walks speak. -/
import Derived.Test.YtoeilapjihbfhaaData
import Derived.Deep.Slices
import Derived.KernelRfl
namespace Go.Proofs.Ytoeilapjihbfhaa
open Go.RowKit

theorem Try.cells30 : Try.prog.cellsOf 30 = 8 := by kernel_rfl
theorem Try.cells50 : Try.prog.cellsOf 50 = 5 := by kernel_rfl
theorem Try.cells28 : Try.prog.cellsOf 28 = 1 := by kernel_rfl
theorem Try.cells9 : Try.prog.cellsOf 9 = 1 := by kernel_rfl
theorem Try.cells3 : Try.prog.cellsOf 3 = 1 := by kernel_rfl
theorem Try.cells2 : Try.prog.cellsOf 2 = 1 := by kernel_rfl

theorem take_one {cs : List Value} {o : Nat} {v : Value} (h : (cs.drop o).take 1 = [v]) : cs[o]? = some v := by
  have e : ((cs.drop o).take 1)[0]? = some v := by rw [h]; rfl
  simpa [List.getElem?_take, List.getElem?_drop] using e

section
variable {H : Type} {enc : TypeId × Value → H} {w : World}

theorem fld_int {fuel : Nat} {T : TypeId} {k : IntKind} {o : Nat} {cs : List Value} {y : DataW H × List MemPlace} (hT : Try.prog.underlying T = some (.int k)) (hc : Try.prog.cellsOf T = 1)
    (h : DataW.trod enc Try.prog w 0 (fun _ => true) true fuel T ((cs.drop o).take (Try.prog.cellsOf T)) = some y) : ∃ v, cs[o]? = some (.int k v) := by
  obtain ⟨v, e, _, _⟩ := DataW.trod_int hT h
  rw [hc] at e
  exact ⟨v, take_one e⟩
theorem fld_string {fuel : Nat} {T : TypeId} {o : Nat} {cs : List Value} {y : DataW H × List MemPlace} (hT : Try.prog.underlying T = some .string) (hc : Try.prog.cellsOf T = 1)
    (h : DataW.trod enc Try.prog w 0 (fun _ => true) true fuel T ((cs.drop o).take (Try.prog.cellsOf T)) = some y) : ∃ s : ByteArray, cs[o]? = some (.string s) ∧ s.size ≤ 9223372036854775807 := by
  obtain ⟨v, e, _, hs⟩ := DataW.trod_string hT h
  rw [hc] at e
  exact ⟨v, take_one e, hs⟩

theorem row_addr {a : Addr} {len m k : Nat} {Q : Nat → List Value → Prop} (hk : 0 < k) (hl : len ≤ m) (h0 : 0 < len) (hx : ∀ i, i < m → ∃ cs', w.cells? 0 (a.add (i * k)) k = some cs' ∧ Q i cs') :
    a = ⟨a.block, a.off, none⟩ ∧ ∀ i, i < len → ∃ cs', cs'.length = k ∧ Q i cs' ∧ ∀ j, j < k → w.cell? ⟨a.block, a.off + i * k + j, none⟩ = cs'[j]? := by
  have hs : a.spot = none := by
    obtain ⟨cs', h1, _⟩ := hx 0 (by omega)
    obtain ⟨_, h2, h3⟩ := World.cells?_some h1
    have h4 := h3 0 hk
    rw [List.getElem?_eq_getElem (by omega)] at h4
    simp only [Nat.zero_mul, Addr.add, if_true] at h4
    cases hsp : a.spot with
    | none => rfl
    | some x =>
      unfold World.cell? at h4
      rw [hsp] at h4
      split at h4 <;> simp at h4
  have ha : a = ⟨a.block, a.off, none⟩ := by cases a; simp_all
  refine ⟨ha, fun i hi => ?_⟩
  obtain ⟨cs', h1, hq⟩ := hx i (by omega)
  obtain ⟨_, h2, h3⟩ := World.cells?_some h1
  refine ⟨cs', h2, hq, fun j hj => ?_⟩
  have e : (a.add (i * k)).add j = ⟨a.block, a.off + i * k + j, none⟩ := by
    have hadd : ∀ b o n : Nat, (⟨b, o, none⟩ : Addr).add n = ⟨b, o + n, none⟩ := fun b o n => by
      unfold Addr.add
      split
      · next h => rw [h]; rfl
      · rfl
    have e1 : a.add (i * k) = ⟨a.block, a.off + i * k, none⟩ := (congrArg (·.add (i * k)) ha).trans (hadd _ _ _)
    rw [e1, hadd]
  rw [← e]
  exact h3 j hj

instance : Inhabited Mb := ⟨mz⟩
instance : Inhabited Ty := ⟨tz⟩

theorem open_mb {fuel b o : Nat} {cs : List Value} {y : DataW H × List MemPlace} (h : DataW.trod enc Try.prog w 0 (fun _ => true) true fuel 50 cs = some y) (hc : ∀ j, j < 5 → w.cell? ⟨b, o + j, none⟩ = cs[j]?) : ∃ m, MbAt w b o m := by
  obtain ⟨xs, n, _, _, _, hlen, hf⟩ := DataW.trod_struct Try.underlying50 h
  have hx : ∀ i, i < 5 → ∃ y, xs[i]? = some y := fun i hi => ⟨_, List.getElem?_eq_getElem (by rw [hlen]; exact hi)⟩
  obtain ⟨y0, e0⟩ := hx 0 (by omega)
  obtain ⟨y1, e1⟩ := hx 1 (by omega)
  obtain ⟨y2, e2⟩ := hx 2 (by omega)
  obtain ⟨y3, e3⟩ := hx 3 (by omega)
  obtain ⟨y4, e4⟩ := hx 4 (by omega)
  obtain ⟨s, c0, hs⟩ := fld_string Try.underlying9 Try.cells9 ((hf 0 _ rfl).trans e0)
  obtain ⟨v1, c1⟩ := fld_int Try.underlying3 Try.cells3 ((hf 1 _ rfl).trans e1)
  obtain ⟨v2, c2⟩ := fld_int Try.underlying3 Try.cells3 ((hf 2 _ rfl).trans e2)
  obtain ⟨v3, c3⟩ := fld_int Try.underlying3 Try.cells3 ((hf 3 _ rfl).trans e3)
  obtain ⟨v4, c4⟩ := fld_int Try.underlying2 Try.cells2 ((hf 4 _ rfl).trans e4)
  exact ⟨⟨s, v1, v2, v3, v4⟩, (hc 0 (by omega)).trans c0, (hc 1 (by omega)).trans c1, (hc 2 (by omega)).trans c2, (hc 3 (by omega)).trans c3, (hc 4 (by omega)).trans c4, hs⟩

theorem nthM_range (f : Nat → Mb) {n j : Nat} (h : j < n) : nthM ((List.range n).map f) j = f j := by simp [nthM, List.getD, h]
theorem nthT_range (f : Nat → Ty) {n j : Nat} (h : j < n) : nthT ((List.range n).map f) j = f j := by simp [nthT, List.getD, h]

theorem open_mems {fuel : Nat} {cs : List Value} {y : DataW H × List MemPlace} (h : DataW.trod enc Try.prog w 0 (fun _ => true) true fuel 28 cs = some y) : ∃ A ms c, cs = [.slice A ms.length c] ∧ Mems w A ms := by
  rcases Go.Deep.open_slice Try.underlying28 h with ⟨rfl, _⟩ | ⟨a, len, cap, m, n, D, Pl, rfl, _, hl, hm, hmm, _, hx⟩
  · exact ⟨none, [], 0, rfl, by simp, fun h => absurd rfl h⟩
  rw [if_pos rfl] at hmm
  subst hmm
  rw [Try.cells50] at hx
  have hmx : maxLen = 9223372036854775807 := rfl
  by_cases h0 : 0 < len
  · obtain ⟨ha, hr⟩ := row_addr (k := 5) (by omega) hl h0 hx
    obtain ⟨f, hfm⟩ := Go.Deep.choose_lt (α := Mb) (p := fun i t => MbAt w a.block (a.off + i * 5) t) (fun i hi => by
      obtain ⟨cs', _, hq, hc⟩ := hr i hi
      exact open_mb hq hc)
    refine ⟨some a, (List.range len).map f, m, by simp, by simp; omega, fun _ => ⟨a.block, a.off, by rw [← ha], fun j hj => ?_⟩⟩
    have hj' : j < len := by simpa using hj
    rw [nthM_range f hj']
    exact hfm j hj'
  · obtain rfl : len = 0 := by omega
    exact ⟨some a, [], m, rfl, by simp, fun h => absurd rfl h⟩

theorem open_ty {fuel b o : Nat} {cs : List Value} {y : DataW H × List MemPlace} (h : DataW.trod enc Try.prog w 0 (fun _ => true) true fuel 30 cs = some y) (hc : ∀ j, j < 8 → w.cell? ⟨b, o + j, none⟩ = cs[j]?) : ∃ t A c, TyAt w b o t A c := by
  obtain ⟨xs, n, _, _, _, hlen, hf⟩ := DataW.trod_struct Try.underlying30 h
  have hx : ∀ i, i < 8 → ∃ y, xs[i]? = some y := fun i hi => ⟨_, List.getElem?_eq_getElem (by rw [hlen]; exact hi)⟩
  obtain ⟨y0, e0⟩ := hx 0 (by omega)
  obtain ⟨y1, e1⟩ := hx 1 (by omega)
  obtain ⟨y2, e2⟩ := hx 2 (by omega)
  obtain ⟨y3, e3⟩ := hx 3 (by omega)
  obtain ⟨y4, e4⟩ := hx 4 (by omega)
  obtain ⟨y5, e5⟩ := hx 5 (by omega)
  obtain ⟨y6, e6⟩ := hx 6 (by omega)
  obtain ⟨y7, e7⟩ := hx 7 (by omega)
  obtain ⟨v0, c0⟩ := fld_int Try.underlying3 Try.cells3 ((hf 0 _ rfl).trans e0)
  obtain ⟨s, c1, hs⟩ := fld_string Try.underlying9 Try.cells9 ((hf 1 _ rfl).trans e1)
  obtain ⟨v2, c2⟩ := fld_int Try.underlying3 Try.cells3 ((hf 2 _ rfl).trans e2)
  obtain ⟨v3, c3⟩ := fld_int Try.underlying3 Try.cells3 ((hf 3 _ rfl).trans e3)
  obtain ⟨v4, c4⟩ := fld_int Try.underlying3 Try.cells3 ((hf 4 _ rfl).trans e4)
  obtain ⟨v5, c5⟩ := fld_int Try.underlying3 Try.cells3 ((hf 5 _ rfl).trans e5)
  obtain ⟨v6, c6⟩ := fld_int Try.underlying3 Try.cells3 ((hf 6 _ rfl).trans e6)
  obtain ⟨A, ms, c, e, hms⟩ := open_mems ((hf 7 _ rfl).trans e7)
  have c7 : cs[7]? = some (.slice A ms.length c) := by
    refine take_one ?_
    have e2 : (cs.drop 7).take (Try.prog.cellsOf 28) = _ := e
    rw [Try.cells28] at e2
    exact e2
  exact ⟨⟨v0, s, v2, v3, v4, v5, v6, ms⟩, A, c, (hc 0 (by omega)).trans c0, (hc 1 (by omega)).trans c1, (hc 2 (by omega)).trans c2, (hc 3 (by omega)).trans c3, (hc 4 (by omega)).trans c4, (hc 5 (by omega)).trans c5,
    (hc 6 (by omega)).trans c6, (hc 7 (by omega)).trans c7, hms, hs⟩

theorem open_types {fuel : Nat} {cs : List Value} {y : DataW H × List MemPlace} (h : DataW.trod enc Try.prog w 0 (fun _ => true) true fuel 22 cs = some y) : ∃ A l c, cs = [.slice A l.length c] ∧ Types w A l := by
  rcases Go.Deep.open_slice Try.underlying22 h with ⟨rfl, _⟩ | ⟨a, len, cap, m, n, D, Pl, rfl, _, hl, hm, hmm, _, hx⟩
  · exact ⟨none, [], 0, rfl, by simp, fun h => absurd rfl h⟩
  rw [if_pos rfl] at hmm
  subst hmm
  rw [Try.cells30] at hx
  have hmx : maxLen = 9223372036854775807 := rfl
  by_cases h0 : 0 < len
  · obtain ⟨ha, hr⟩ := row_addr (k := 8) (by omega) hl h0 hx
    obtain ⟨f, hfm⟩ := Go.Deep.choose_lt (α := Ty) (p := fun i t => ∃ A c, TyAt w a.block (a.off + i * 8) t A c) (fun i hi => by
      obtain ⟨cs', _, hq, hc⟩ := hr i hi
      exact open_ty hq hc)
    refine ⟨some a, (List.range len).map f, m, by simp, by simp; omega, fun _ => ⟨a.block, a.off, by rw [← ha], fun j hj => ?_⟩⟩
    have hj' : j < len := by simpa using hj
    rw [nthT_range f hj']
    exact hfm j hj'
  · obtain rfl : len = 0 := by omega
    exact ⟨some a, [], m, rfl, by simp, fun h => absurd rfl h⟩
end
end Go.Proofs.Ytoeilapjihbfhaa
