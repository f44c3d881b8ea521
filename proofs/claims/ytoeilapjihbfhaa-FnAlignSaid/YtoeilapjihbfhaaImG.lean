/- The walk of impl.fill for enumerations. -/
import Derived.Test.YtoeilapjihbfhaaImF
import Derived.Deep.RegionLaw
namespace Go.Proofs.Ytoeilapjihbfhaa
open Go.RowKit
attribute [local go_sem] yes74 no74 yes69 no69 yes77 no77 yes82 no82 yes62 no62 yes91 no91 yes94 no94 yes97 no97 yes99 no99 yes101 no101 yes106 no106 yes110 no110 yes114 no114 yes121 no121 yes65 no65

theorem Try.info127 : (Try.prog.info? 127).map (fun i => (i.zero, i.size, i.bytes)) = some (some (.agg #[.string ⟨#[]⟩, .int .u64 0]), 2, 24) := by kernel_rfl

/-- What is beneath stays readable while block b is written. -/
theorem below_of_grown {w0 w wr : World} {b : Nat} (h : Below w0.heap.size w0 w) (hg : w.grownBy wr (some b)) (hb : w0.heap.size ≤ b) : Below w0.heap.size w0 wr :=
  h.grown hg h.size (fun k hk => by injection hk with hk; omega)

theorem heap_two (w : World) (o1 o2 : Obj) : (((w.alloc o1).alloc o2).drew).heap[w.heap.size + 1]? = some o2 := by
  have h := heap_alloc_new (w.alloc o1) o2
  rw [World.size_alloc] at h
  exact h
theorem blk_grown {w w1 : World} {b : Nat} {o : Obj} {row : Option Nat} (h : w.grownBy w1 row) (hb : w.heap[b]? = some o) (hne : some b ≠ row) : w1.heap[b]? = some o :=
  (h.block b (lt_of_block hb) hne).trans hb
theorem own_ne {w : World} {base b : Nat} {e : TypeId} {size n : Nat} {v : Value} {xs : List Value} (h : w.ownsRow base e size v n xs) (hb : b < base) : some b ≠ v.ownBlock := fun e => by have := (h.lt _ e.symm).1; omega

theorem grown_then {w w1 w2 : World} {b : Nat} {row : Option Nat} (h : w.grownBy w1 (some b)) (k : w1.grownBy w2 row) (hr : ∀ q, row = some q → w.heap.size ≤ q ∨ q = b) : w.grownBy w2 (some b) :=
  ⟨k.os.trans h.os, k.tape.trans h.tape, k.output.trans h.output, Nat.le_trans h.size k.size, fun i hi hne => by
    refine (k.block i (Nat.lt_of_lt_of_le hi h.size) (fun e => ?_)).trans (h.block i hi hne)
    rcases hr i e.symm with h1 | h1
    · omega
    · exact hne (by rw [h1])⟩
theorem own_far {w w1 : World} {e : TypeId} {size n b : Nat} {v : Value} {xs : List Value} (h : w1.ownsRow w.heap.size e size v n xs) : ∀ q, v.ownBlock = some q → w.heap.size ≤ q ∨ q = b := fun q hq => .inl (h.lt q hq).1

set_option maxRecDepth 100000 in
set_option maxHeartbeats 8000000 in
theorem fill_6 (b g : Nat) (l : List Ty) (B : Nat → Nat) (kind : Int) (nm : ByteArray) (size enc flag of idx : Int) (mem : List Mb) (At : Option Addr) (ct : Nat) (w0 w : World)
    (hkind : kind = 6 ∨ kind = 19) (hb : w.heap[b]? = some (.cells #[.string nm, .int .u32 size, .bool (flag == 1), .slice none 0 0] 86 (0, 0)))
    (hM : Mems w0 At mem) (hw : Below w0.heap.size w0 w) (hb0 : w0.heap.size ≤ b) (h8 : mem.length ≤ 8) :
    Calls Try.prog 29 #[.iface 62 (.pointer (some ⟨b, 0, none⟩)), tyV ⟨kind, nm, size, enc, flag, of, idx, mem⟩ At ct, .func (.func 28) #[] #[.pointer (some ⟨g, 0, none⟩)]] w (FillPost b l B ⟨kind, nm, size, enc, flag, of, idx, mem⟩ w) := by
  refine calls_ends fun P HP => ?_
  have hsid : sidOf kind = 86 := by rcases hkind with rfl | rfl <;> rfl
  have HLK : Hid (∀ (W : World) (v : Value) (sg : Bool), W.heap[b]? = some (.cells #[.string nm, .int .u32 size, .bool sg, v] 86 (0, 0)) → Linked W b l B ⟨kind, nm, size, enc, flag, of, idx, mem⟩) := fun W v sg h =>
    ⟨_, by rw [hsid]; exact h, fun _ => rfl, fun h => by rcases hkind with e | e <;> rw [e] at h <;> simp at h, fun h => by rcases hkind with e | e <;> rw [e] at h <;> simp at h⟩
  clear hkind hsid
  have hml := hM.len
  have HB := hid hb
  have HM := hid hM
  have HW := hid hw
  have H8 := hid h8
  have HBL := hid (lt_of_block hb)
  obtain ⟨i0, hi, hz0, hz1, hz2⟩ := info_parts Try.info127
  clear hb hM hw h8
  generalize hsg : (flag == 1) = sg at *
  clear hsg
  go_enter Try.func29, Try.ntmps29
  go_wp2_with fail
  go_loopg [80] mem.length (fun gk i wr => ∃ (k : Nat) (v : Value) (xs : List Value), k + gk = mem.length ∧ i = .int .i64 k ∧ Hid (wr.heap[b]? = some (.cells #[.string nm, .int .u32 size, .bool sg, v] 86 (0, 0))) ∧ Hid (wr.ownsRow w.heap.size 127 2 v k xs) ∧ Hid (w.grownBy wr (some b)))
  case atStart => exact ⟨0, _, [], by simp, rfl, hid (blk_below (box_below _ _) HB.out), hid (World.ownsRow_nil _ _ _ _), hid (grown_of_below (box_below _ _) _)⟩
  case round =>
    obtain ⟨k, v, xs, hk, rfl, HK0, HO, HG⟩ := hrel
    have HK := hid hk
    clear hk
    by_cases hlt : k < mem.length
    · obtain ⟨bm, o, rfl, hmb⟩ := (HM.out.below (below_of_grown HW.out HG.out hb0)).at_ hlt
      have h0 := hmb.c0
      have h1 := hmb.c1
      have h2 := hmb.c2
      have h3 := hmb.c3
      have h4 := hmb.c4
      generalize hnm : nthM mem k = m at *
      clear hmb hnm
      go_wp2_with fail
      have HLR : Hid (b < wr.heap.size) := lt_of_block HK0.out
      have c3 : ∀ o1, ((wr.alloc o1).drew).cell? ⟨b, 3, none⟩ = some v := fun o1 => keep_cell (below_drew (box_below _ _)) (blk_cell HK0.out 3)
      have c3' : ∀ o1 o2, (((wr.alloc o1).drew).alloc o2).cell? ⟨b, 3, none⟩ = some v := fun o1 o2 => keep_cell (below_alloc (below_drew (box_below _ _)) _) (blk_cell HK0.out 3)
      have c3'' : ∀ o1 o2, (((wr.alloc o1).alloc o2).drew).cell? ⟨b, 3, none⟩ = some v := fun o1 o2 => keep_cell (below_drew (below_alloc (box_below _ _) _)) (blk_cell HK0.out 3)
      go_region_law (refine step_append_lies _ rfl (.tmp 88) (.tmp 95) 84 rfl w.heap.size 127 i0 _ 2 24 Try.underlying84 hi hz0 hz1 hz2 rfl (by decide) v k xs (by simp [Act.eval]) ((HO.out.alloc _).drew.alloc _) ⟨wr.heap.size + 1, 0, none⟩ 1 1 [.string m.name, .int .u64 (IntKind.u64.wrap m.val)] (by simp [Act.eval]) rfl (World.news_of_block (heap_two _ _ _)) (by simp [Value.oneCell']) (by decide) (by unfold maxLen; have := H8.out; omega) (by have := H8.out; omega) (by have := HG.out.size; simp at *; omega) _ rfl ?_; intro g2 cap w2 hown2 hgrow hat2 hlt2; have hbk := blk_grown hgrow (blk_below (below_drew (below_alloc (box_below _ _) _)) HK0.out) (own_ne HO.out HBL.out); have c9 := blk_cell hbk; have f9 := blk_free hbk; have HBK := hid hbk; clear hbk)
      all_goals
        have HGR := hid hgrow
        have HO2 := hid hown2
        clear hgrow hown2 hat2 hlt2 c9 f9
        go_wp2_with fail
        go_roundg (gk - 1)
        case measure => have := HK.out; omega
        case rel =>
          refine ⟨k + 1, _, xs ++ [.string m.name, .int .u64 (IntKind.u64.wrap m.val)], by have := HK.out; omega, by go_num, blk_setCell HBK.out 3 _, ?_, ?_⟩
          · exact hid (HO2.out.kept (grown_set _ _ _ _) (.inr (fun e => own_ne HO2.out HBL.out e.symm)))
          · exact hid (grown_then (grown_then (grown_then HG.out (grown_of_below (below_drew (below_alloc (box_below _ _) _)) none) (by simp)) HGR.out (own_far HO.out)) (grown_set _ b 3 _) (by simp))
    · obtain rfl : gk = 0 := by have := HK.out; omega
      go_wp2_with fail
      go_end0
      exact HP.out _ _ ⟨rfl, HG.out, HLK.out _ _ _ HK0.out⟩
end Go.Proofs.Ytoeilapjihbfhaa
