/- The walk of impl.build: of types of which is spoken it hands back the types that it has made, each linked as it says. -/
import Derived.Test.YtoeilapjihbfhaaImJ
import Derived.Deep.OwnRows
import Derived.Deep.QuietTactic
import Derived.BigQuiet
namespace Go.Proofs.Ytoeilapjihbfhaa
open Go.RowKit

/-- Behind k rounds of making. Block W of the old size holds the slice's cells, the next one the variable. -/
structure Half (w0 wr : World) (l : List Ty) (k : Nat) (cs : Array Value) (B : Nat → Nat) : Prop where
  bel : Below w0.heap.size w0 wr
  var : wr.heap[w0.heap.size + 1]? = some (.cells #[.slice (some ⟨w0.heap.size, 0, none⟩) l.length l.length] 36 (0, 0))
  row : wr.heap[w0.heap.size]? = some (.cells cs 35 (0, 0))
  size : cs.size = l.length
  done : ∀ j, j < k → cs[j]? = some (.iface (tidOf (nthT l j).kind) (.pointer (some ⟨B j, 0, none⟩))) ∧ Fresh wr (B j) (nthT l j) ∧ w0.heap.size + 1 < B j ∧ ∀ i, i < j → B i < B j

theorem blk_other {w : World} {b : Nat} {o : Obj} (h : w.heap[b]? = some o) (c i : Nat) (v : Value) (hne : b ≠ c) : (w.setCell ⟨c, i, none⟩ v).heap[b]? = some o := by
  rw [Below.heap_setCell _ _ _ _ hne]
  exact h

theorem Half.below {w0 wr w1 : World} {l : List Ty} {k : Nat} {cs : Array Value} {B : Nat → Nat} (h : Half w0 wr l k cs B) (hb : Below wr.heap.size wr w1) : Half w0 w1 l k cs B :=
  ⟨below_then h.bel hb, blk_below hb h.var, blk_below hb h.row, h.size, fun j hj => ⟨(h.done j hj).1, blk_below hb (h.done j hj).2.1, (h.done j hj).2.2⟩⟩

theorem Half.next {w0 wr w1 : World} {l : List Ty} {k q : Nat} {cs : Array Value} {B : Nat → Nat} (h : Half w0 wr l k cs B) (hk : k < l.length) (hb : Below wr.heap.size wr w1) (hq : wr.heap.size ≤ q) (hf : Fresh w1 q (nthT l k)) :
    Half w0 (w1.setCell ⟨w0.heap.size, k, none⟩ (.iface (tidOf (nthT l k).kind) (.pointer (some ⟨q, 0, none⟩)))) l (k + 1) (cs.setIfInBounds k (.iface (tidOf (nthT l k).kind) (.pointer (some ⟨q, 0, none⟩)))) (fun j => if j = k then q else B j) := by
  have h1 := h.below hb
  have hsz := lt_of_block h.var
  refine ⟨h1.bel.setCell (by simp) _, blk_other h1.var _ _ _ (by omega), blk_setCell h1.row _ _, by simpa using h.size, fun j hj => ?_⟩
  by_cases e : j = k
  · subst e
    rw [if_pos rfl]
    refine ⟨by simp [h.size, hk], blk_other hf _ _ _ (by omega), by omega, fun i hi => ?_⟩
    have := lt_of_block (h.done i hi).2.1
    rw [if_neg (by omega)]
    omega
  · have hjk : j < k := by omega
    obtain ⟨q1, q2, q3, q4⟩ := h1.done j hjk
    simp only [if_neg e]
    refine ⟨by simpa [Array.getElem?_setIfInBounds_ne (Ne.symm e)] using q1, blk_other q2 _ _ _ (by omega), q3, fun i hi => ?_⟩
    rw [if_neg (by omega)]
    exact q4 i hi

/-- What build hands back. -/
structure Built (w : World) (a : Nat) (l : List Ty) (B : Nat → Nat) : Prop where
  out : ∀ j, j < l.length → w.cell? ⟨a, j, none⟩ = some (.iface (tidOf (nthT l j).kind) (.pointer (some ⟨B j, 0, none⟩)))
  lnk : ∀ j, j < l.length → Linked w (B j) l B (nthT l j)

theorem below_drewN {n : Nat} {w w1 : World} (h : Below n w w1) (m : Nat) : Below n w (w1.drewN m) := ⟨h.os, h.tape, h.output, h.size, h.block⟩

/-- Behind k rounds of linking. -/
structure Going (w0 wr : World) (l : List Ty) (B : Nat → Nat) (k : Nat) : Prop where
  bel : Below w0.heap.size w0 wr
  are : Arena wr (w0.heap.size + 1) w0.heap.size l B
  done : ∀ j, j < k → Linked wr (B j) l B (nthT l j)
  rest : ∀ j, k ≤ j → j < l.length → Fresh wr (B j) (nthT l j)
  gt : ∀ j, j < l.length → w0.heap.size + 1 < B j
  inc : ∀ i j, i < j → j < l.length → B i < B j

theorem Half.going {w0 wr : World} {l : List Ty} {cs : Array Value} {B : Nat → Nat} (h : Half w0 wr l l.length cs B) : Going w0 wr l B 0 :=
  ⟨h.bel, ⟨by rw [blk_cell h.var]; rfl, fun j hj => by rw [blk_cell h.row]; exact (h.done j hj).1⟩, fun j hj => absurd hj (Nat.not_lt_zero j), fun j _ hj => (h.done j hj).2.1, fun j hj => (h.done j hj).2.2.1,
    fun i j hij hj => (h.done j hj).2.2.2 i hij⟩

theorem Linked.same {w w' : World} {b : Nat} {l : List Ty} {B : Nat → Nat} {t : Ty} (h : Linked w b l B t) (e : w'.heap[b]? = w.heap[b]?) : Linked w' b l B t := by
  obtain ⟨cs, h1, h2⟩ := h.blk
  exact ⟨cs, e.trans h1, h2⟩

theorem Going.same {w0 wr w1 : World} {l : List Ty} {B : Nat → Nat} {k : Nat} (h : Going w0 wr l B k) (hb : Below wr.heap.size wr w1) : Going w0 w1 l B k :=
  ⟨below_then h.bel hb, h.are.below hb, fun j hj => by
    obtain ⟨cs, h1, h2⟩ := (h.done j hj).blk
    exact ⟨cs, blk_below hb h1, h2⟩, fun j h1 h2 => blk_below hb (h.rest j h1 h2), h.gt, h.inc⟩

theorem Going.next {w0 wr w1 : World} {l : List Ty} {B : Nat → Nat} {k : Nat} (h : Going w0 wr l B k) (hk : k < l.length) (hg : wr.grownBy w1 (some (B k))) (hL : Linked w1 (B k) l B (nthT l k)) : Going w0 w1 l B (k + 1) := by
  have hgt := h.gt k hk
  have hsz := h.bel.size
  have hne : ∀ j, j < l.length → j ≠ k → B j ≠ B k := fun j hj e => by
    rcases Nat.lt_or_gt_of_ne e with q | q
    · have := h.inc j k q hk; omega
    · have := h.inc k j q hj; omega
  refine ⟨below_of_grown h.bel hg (by omega), h.are.grown hg (by omega) (by omega), fun j hj => ?_, fun j h1 h2 => ?_, h.gt, h.inc⟩
  · by_cases e : j = k
    · subst e
      exact hL
    · have hq := h.done j (by omega)
      obtain ⟨cs, q1, _⟩ := hq.blk
      exact hq.same (hg.block _ (lt_of_block q1) (fun e2 => hne j (by omega) e (by injection e2)))
  · exact blk_grown hg (h.rest j (by omega) h2) (fun e2 => hne j h2 (by omega) (by injection e2))

theorem Going.built {w0 wr : World} {l : List Ty} {B : Nat → Nat} (h : Going w0 wr l B l.length) : Built wr w0.heap.size l B :=
  ⟨h.are.out, h.done⟩

theorem Built.below {w w' : World} {a : Nat} {l : List Ty} {B : Nat → Nat} (h : Built w a l B) (hb : Below w.heap.size w w') : Built w' a l B :=
  ⟨fun j hj => keep_cell hb (h.out j hj), fun j hj => by
    obtain ⟨cs, h1, h2⟩ := (h.lnk j hj).blk
    exact ⟨cs, blk_below hb h1, h2⟩⟩

def BuildPost (l : List Ty) (w : World) (e : Ending) (w' : World) : Prop :=
  ∃ a B, e = .returned (.tuple #[.slice (some ⟨a, 0, none⟩) l.length l.length, .bool true]) ∧ Built w' a l B ∧ Below w.heap.size w w'

theorem Try.info35 : (Try.prog.info? 35).map (fun i => (i.zero, i.size, i.bytes)) = some (some .nilIface, 1, 16) := by kernel_rfl

set_option maxRecDepth 100000 in
set_option maxHeartbeats 16000000 in
theorem build_calls (A : Option Addr) (c : Nat) (l : List Ty) (w : World) (h : Types w A l) (hok : LOk l) : Calls Try.prog 22 #[.slice A l.length c] w (BuildPost l w) := by
  refine calls_ends fun P HP => ?_
  have hl := hok.len
  have hl2 := h.len
  have H := hid h
  have HOK := hid hok
  have hmk := run_make_row' (P := Try.prog) 36 35 .nilIface 16 Try.underlying36 Try.info35 rfl .i64 .i64 l.length (by omega) (by omega)
  clear h hok
  go_enter Try.func22, Try.ntmps22
  go_wp2_with fail
  clear hmk
  go_loopg [17] l.length (fun gk i wr => ∃ (k : Nat) (cs : Array Value) (B : Nat → Nat), k + gk = l.length ∧ i = .int .i64 k ∧ Hid (Half w wr l k cs B))
  case atStart =>
    refine ⟨0, madeCells #[.nilIface] l.length, fun _ => 0, by simp, rfl, hid ⟨below_alloc (box_below _ _) _, ?_, ?_, by simp [madeCells], fun j hj => absurd hj (Nat.not_lt_zero j)⟩⟩
    · have e := heap_alloc_new (w.alloc (.cells (madeCells #[.nilIface] l.length) 35)) (.cells #[.slice (some ⟨w.heap.size, 0, none⟩) l.length l.length] 36)
      rw [World.size_alloc] at e
      exact e
    · exact blk_below (box_below _ _) (heap_alloc_new w _)
  case round =>
    obtain ⟨k, cs, B, hk, rfl, HF⟩ := hrel
    have HK := hid hk
    clear hk
    by_cases hlt : k < l.length
    · obtain ⟨b, o, C, cc, rfl, hm⟩ := (H.out.below HF.out.bel).at_ hlt
      have hto := HOK.out.all k hlt
      have h0 := hm.c0
      have h1 := hm.c1
      have h2 := hm.c2
      have h3 := hm.c3
      have h4 := hm.c4
      have h5 := hm.c5
      have h6 := hm.c6
      have h7 := hm.c7
      have HM := hid hm.mem
      generalize hnt : nthT l k = t at *
      have HNT := hid hnt
      have HTO := hid hto
      clear hm hnt hto
      go_wp2_with (go_at_call 26; refine (fits_calls (some ⟨b, o, none⟩) c l t C cc _ (H.out.below (below_alloc HF.out.bel _)) HOK.out (HM.out.below (box_below _ _)) HTO.out).mono ?_; rintro e w1 ⟨rfl, hb1⟩; have HB1 := hid hb1; clear hb1)
      have HW1 := hid (below_then (box_below _ _) HB1.out)
      have HF1 := hid (HF.out.below HW1.out)
      have cg : w1.cell? ⟨w.heap.size + 1, 0, none⟩ = some (.slice (some ⟨w.heap.size, 0, none⟩) l.length l.length) := blk_cell HF1.out.var 0
      have k0 : w1.cell? ⟨wr.heap.size, 0, none⟩ = some (.int .i64 t.kind) := keep_cell HB1.out (by simp)
      have k1 : w1.cell? ⟨wr.heap.size, 1, none⟩ = some (.string t.name) := keep_cell HB1.out (by simp)
      have k2 : w1.cell? ⟨wr.heap.size, 2, none⟩ = some (.int .i64 t.size) := keep_cell HB1.out (by simp)
      have k3 : w1.cell? ⟨wr.heap.size, 3, none⟩ = some (.int .i64 t.enc) := keep_cell HB1.out (by simp)
      have k4 : w1.cell? ⟨wr.heap.size, 4, none⟩ = some (.int .i64 t.flag) := keep_cell HB1.out (by simp)
      have k5 : w1.cell? ⟨wr.heap.size, 5, none⟩ = some (.int .i64 t.of) := keep_cell HB1.out (by simp)
      have k6 : w1.cell? ⟨wr.heap.size, 6, none⟩ = some (.int .i64 t.idx) := keep_cell HB1.out (by simp)
      have k7 : w1.cell? ⟨wr.heap.size, 7, none⟩ = some (.slice C t.mem.length cc) := keep_cell HB1.out (by simp)
      have hn1 : w.heap.size + 1 ≠ w.heap.size := by omega
      have hn2 : wr.heap.size ≠ w.heap.size := by have := lt_of_block HF.out.row; omega
      clear h0 h1 h2 h3 h4 h5 h6 h7
      obtain ⟨old, hold⟩ : ∃ old, cs[k]? = some old := ⟨_, Array.getElem?_eq_getElem (by rw [HF.out.size]; exact hlt)⟩
      have HOLD := hid hold
      clear hold
      go_region_held3 (fun W => W.cell? ⟨w.heap.size + 1, 0, none⟩ = some (.slice (some ⟨w.heap.size, 0, none⟩) l.length l.length) ∧ W.cell? ⟨wr.heap.size, 0, none⟩ = some (.int .i64 t.kind) ∧ W.cell? ⟨wr.heap.size, 1, none⟩ = some (.string t.name) ∧ W.cell? ⟨wr.heap.size, 2, none⟩ = some (.int .i64 t.size) ∧ W.cell? ⟨wr.heap.size, 3, none⟩ = some (.int .i64 t.enc) ∧ W.cell? ⟨wr.heap.size, 4, none⟩ = some (.int .i64 t.flag) ∧ W.cell? ⟨wr.heap.size, 5, none⟩ = some (.int .i64 t.of) ∧ W.cell? ⟨wr.heap.size, 6, none⟩ = some (.int .i64 t.idx) ∧ W.cell? ⟨wr.heap.size, 7, none⟩ = some (.slice C t.mem.length cc))
        (first | exact ⟨cg, k0, k1, k2, k3, k4, k5, k6, k7⟩ | exact ⟨far_cell cg hn1, far_cell k0 hn2, far_cell k1 hn2, far_cell k2 hn2, far_cell k3 hn2, far_cell k4 hn2, far_cell k5 hn2, far_cell k6 hn2, far_cell k7 hn2⟩)
        ((go_at_call 27; refine (made_some t C cc _ l.length HTO.out).mono ?_; rintro e w3 ⟨q, rfl, hq, hfr, hb3⟩; have cg := keep_cell hb3 cg; have k0 := keep_cell hb3 k0; have k1 := keep_cell hb3 k1; have k2 := keep_cell hb3 k2; have k3 := keep_cell hb3 k3; have k4 := keep_cell hb3 k4; have k5 := keep_cell hb3 k5; have k6 := keep_cell hb3 k6; have k7 := keep_cell hb3 k7; have HW3 := hid (below_then HW1.out (below_drew (Below.refl _ _) |> fun d => below_then d hb3)); have HQ := hid hq; have HFR := hid hfr; clear hq hfr hb3; have ck := (blk_cell (HF.out.below HW3.out).row k).trans HOLD.out; have fk := blk_free (HF.out.below HW3.out).row k))
      all_goals
        go_wp2_with fail
        go_roundg (gk - 1)
        case measure => have := HK.out; omega
        case rel =>
          refine ⟨k + 1, cs.setIfInBounds k (.iface (tidOf t.kind) (.pointer (some ⟨q, 0, none⟩))), fun j => if j = k then q else B j, by have := HK.out; omega, by go_num, ?_⟩
          have h := HF.out.next (q := q) hlt HW3.out (by have := HQ.out; have := HW1.out.size; simp at *; omega) (by rw [HNT.out]; exact HFR.out)
          rw [HNT.out] at h
          exact hid h
    · obtain rfl : gk = 0 := by have := HK.out; omega
      obtain rfl : k = l.length := by have := HK.out; omega
      go_wp2_with fail
      have HGO := hid HF.out.going
      clear HF
      go_loopg [35] l.length (fun gk i wr => ∃ (k : Nat), k + gk = l.length ∧ i = .int .i64 k ∧ Hid (Going w wr l B k))
      case atStart => exact ⟨0, by simp, rfl, HGO⟩
      case round =>
        obtain ⟨k, hk, rfl, HG⟩ := hrel
        have HK := hid hk
        clear hk HGO
        by_cases hlt : k < l.length
        · obtain ⟨b, o, C, cc, rfl, hm⟩ := H.out.at_ hlt
          have hto := HOK.out.all k hlt
          have hfr := HG.out.rest k (Nat.le_refl k) hlt
          have hgt := HG.out.gt k hlt
          have hav := HG.out.are.out k hlt
          have HN := hid (fun w1 hg hL => HG.out.next (w1 := w1) hlt hg hL)
          have HM := hid hm.mem
          have h0 := keep_cell HG.out.bel hm.c0
          have h1 := keep_cell HG.out.bel hm.c1
          have h2 := keep_cell HG.out.bel hm.c2
          have h3 := keep_cell HG.out.bel hm.c3
          have h4 := keep_cell HG.out.bel hm.c4
          have h5 := keep_cell HG.out.bel hm.c5
          have h6 := keep_cell HG.out.bel hm.c6
          have h7 := keep_cell HG.out.bel hm.c7
          have cg0 := HG.out.are.cell
          generalize hnt : nthT l k = t at *
          generalize hbk : B k = bk at *
          have HTO := hid hto
          have HFR := hid hfr
          have HGT := hid hgt
          clear hm hnt hto hbk hfr hgt
          go_wp2_with fail
          clear h0 h1 h2 h3 h4 h5 h6 h7
          have cg : (wr.alloc (.cells (tyCells t C cc) 30)).cell? ⟨w.heap.size + 1, 0, none⟩ = some (.slice (some ⟨w.heap.size, 0, none⟩) l.length l.length) := keep_cell (box_below _ _) cg0
          have ca : (wr.alloc (.cells (tyCells t C cc) 30)).cell? ⟨w.heap.size, k, none⟩ = some (.iface (tidOf t.kind) (.pointer (some ⟨bk, 0, none⟩))) := keep_cell (box_below _ _) hav
          have k0 : (wr.alloc (.cells (tyCells t C cc) 30)).cell? ⟨wr.heap.size, 0, none⟩ = some (.int .i64 t.kind) := by simp [tyCells]
          have k1 : (wr.alloc (.cells (tyCells t C cc) 30)).cell? ⟨wr.heap.size, 1, none⟩ = some (.string t.name) := by simp [tyCells]
          have k2 : (wr.alloc (.cells (tyCells t C cc) 30)).cell? ⟨wr.heap.size, 2, none⟩ = some (.int .i64 t.size) := by simp [tyCells]
          have k3 : (wr.alloc (.cells (tyCells t C cc) 30)).cell? ⟨wr.heap.size, 3, none⟩ = some (.int .i64 t.enc) := by simp [tyCells]
          have k4 : (wr.alloc (.cells (tyCells t C cc) 30)).cell? ⟨wr.heap.size, 4, none⟩ = some (.int .i64 t.flag) := by simp [tyCells]
          have k5 : (wr.alloc (.cells (tyCells t C cc) 30)).cell? ⟨wr.heap.size, 5, none⟩ = some (.int .i64 t.of) := by simp [tyCells]
          have k6 : (wr.alloc (.cells (tyCells t C cc) 30)).cell? ⟨wr.heap.size, 6, none⟩ = some (.int .i64 t.idx) := by simp [tyCells]
          have k7 : (wr.alloc (.cells (tyCells t C cc) 30)).cell? ⟨wr.heap.size, 7, none⟩ = some (.slice C t.mem.length cc) := by simp [tyCells]
          have HB : Hid (Below wr.heap.size wr (wr.alloc (.cells (tyCells t C cc) 30))) := box_below _ _
          have HSZ : Hid (bk < wr.heap.size) := lt_of_block HFR.out
          have n1 : (⟨w.heap.size + 1, 0, none⟩ : Addr).block ≠ bk := by have := HGT.out; dsimp only; omega
          have n2 : (⟨w.heap.size, k, none⟩ : Addr).block ≠ bk := by have := HGT.out; dsimp only; omega
          have n3 : ∀ i, (⟨wr.heap.size, i, none⟩ : Addr).block ≠ bk := by have := HSZ.out; intro i; dsimp only; omega
          clear cg0 hav
          change Code.wp _ _ _ _ (wr.alloc (.cells (tyCells t C cc) 30))
          generalize (wr.alloc (.cells (tyCells t C cc) 30)) = wx at *
          go_region_held3 (fun W => W.cell? ⟨w.heap.size + 1, 0, none⟩ = some (.slice (some ⟨w.heap.size, 0, none⟩) l.length l.length) ∧ W.cell? ⟨w.heap.size, k, none⟩ = some (.iface (tidOf t.kind) (.pointer (some ⟨bk, 0, none⟩))) ∧ W.cell? ⟨wr.heap.size, 0, none⟩ = some (.int .i64 t.kind) ∧ W.cell? ⟨wr.heap.size, 1, none⟩ = some (.string t.name) ∧ W.cell? ⟨wr.heap.size, 2, none⟩ = some (.int .i64 t.size) ∧ W.cell? ⟨wr.heap.size, 3, none⟩ = some (.int .i64 t.enc) ∧ W.cell? ⟨wr.heap.size, 4, none⟩ = some (.int .i64 t.flag) ∧ W.cell? ⟨wr.heap.size, 5, none⟩ = some (.int .i64 t.of) ∧ W.cell? ⟨wr.heap.size, 6, none⟩ = some (.int .i64 t.idx) ∧ W.cell? ⟨wr.heap.size, 7, none⟩ = some (.slice C t.mem.length cc))
            (exact ⟨cg, ca, k0, k1, k2, k3, k4, k5, k6, k7⟩)
            ((go_at_call 29; refine (fill_calls bk (w.heap.size + 1) w.heap.size l B t C cc w _ HTO.out (blk_below (below_drew HB.out) HFR.out) (HG.out.are.below (below_drew HB.out)) (by have := HGT.out; omega) (by have := HGT.out; omega) hl HM.out (below_then HG.out.bel (below_drew HB.out)) (by have := HGT.out; omega)).mono ?_; rintro e w3 ⟨rfl, hg3, hL3⟩; have cg := grown_cell hg3 cg (fun e => n1 (by injection e)); have ca := grown_cell hg3 ca (fun e => n2 (by injection e)); have k0 := grown_cell hg3 k0 (fun e => n3 _ (by injection e)); have k1 := grown_cell hg3 k1 (fun e => n3 _ (by injection e)); have k2 := grown_cell hg3 k2 (fun e => n3 _ (by injection e)); have k3 := grown_cell hg3 k3 (fun e => n3 _ (by injection e)); have k4 := grown_cell hg3 k4 (fun e => n3 _ (by injection e)); have k5 := grown_cell hg3 k5 (fun e => n3 _ (by injection e)); have k6 := grown_cell hg3 k6 (fun e => n3 _ (by injection e)); have k7 := grown_cell hg3 k7 (fun e => n3 _ (by injection e)); have HGR := hid hg3; have HL3 := hid hL3; clear hg3 hL3))
          all_goals
            go_wp2_with fail
            go_roundg (gk - 1)
            case measure => have := HK.out; omega
            case rel =>
              refine ⟨k + 1, by have := HK.out; omega, by go_num, ?_⟩
              exact hid (HN.out _ (grown_then (grown_of_below (below_drew HB.out) _) HGR.out (by intro q e; exact .inr (by injection e with e; exact e.symm))) HL3.out)
        · obtain rfl : gk = 0 := by have := HK.out; omega
          obtain rfl : k = l.length := by have := HK.out; omega
          go_wp2_with fail
          have HBU := hid HG.out.built
          have HBE := hid HG.out.bel
          have HCE := hid HG.out.are.cell
          clear HG
          go_loopg [50] l.length (fun gk i wr => ∃ (k : Nat), k + gk = l.length ∧ i = .int .i64 k ∧ Hid (Built wr w.heap.size l B ∧ Below w.heap.size w wr ∧ wr.cell? ⟨w.heap.size + 1, 0, none⟩ = some (.slice (some ⟨w.heap.size, 0, none⟩) l.length l.length)))
          case atStart => exact ⟨0, by simp, rfl, hid ⟨HBU.out, HBE.out, HCE.out⟩⟩
          case round =>
            obtain ⟨k, hk, rfl, HG⟩ := hrel
            have HK := hid hk
            clear hk HBU HBE HCE
            by_cases hlt : k < l.length
            · obtain ⟨b, o, C, cc, rfl, hm⟩ := H.out.at_ hlt
              have hto := HOK.out.all k hlt
              have h0 := keep_cell HG.out.2.1 hm.c0
              have h1 := keep_cell HG.out.2.1 hm.c1
              have h2 := keep_cell HG.out.2.1 hm.c2
              have h3 := keep_cell HG.out.2.1 hm.c3
              have h4 := keep_cell HG.out.2.1 hm.c4
              have h5 := keep_cell HG.out.2.1 hm.c5
              have h6 := keep_cell HG.out.2.1 hm.c6
              have h7 := keep_cell HG.out.2.1 hm.c7
              generalize hnt : nthT l k = t at *
              have h17 := hto.k17
              clear hm hnt hto
              go_wp2_with fail
              clear h0 h1 h2 h3 h4 h5 h6 h7
              have hd : (t.kind == 17) = false := by simpa using h17
              have k0 : (wr.alloc (.cells (tyCells t C cc) 30)).cell? ⟨wr.heap.size, 0, none⟩ = some (.int .i64 t.kind) := by simp [tyCells]
              have HB : Hid (Below wr.heap.size wr (wr.alloc (.cells (tyCells t C cc) 30))) := box_below _ _
              change Code.wp _ _ _ _ (wr.alloc (.cells (tyCells t C cc) 30))
              generalize (wr.alloc (.cells (tyCells t C cc) 30)) = wx at *
              go_quiet (fail)
              go_wp2_with fail
              go_roundg (gk - 1)
              case measure => have := HK.out; omega
              case rel =>
                exact ⟨k + 1, by have := HK.out; omega, by go_num, hid ⟨HG.out.1.below (below_drewN HB.out _), below_then HG.out.2.1 (below_drewN HB.out _), keep_cell (below_drewN HB.out _) HG.out.2.2⟩⟩
            · obtain rfl : gk = 0 := by have := HK.out; omega
              obtain rfl : k = l.length := by have := HK.out; omega
              have hce := HG.out.2.2
              go_wp2_with fail
              go_ret2
              exact HP.out _ _ ⟨_, B, rfl, HG.out.1, HG.out.2.1⟩

end Go.Proofs.Ytoeilapjihbfhaa
