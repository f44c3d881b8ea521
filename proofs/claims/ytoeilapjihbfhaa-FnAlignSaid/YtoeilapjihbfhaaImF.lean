/- The walks of impl.fill for arrays, structs and unions. -/
import Derived.Test.YtoeilapjihbfhaaImD
import Derived.Deep.RegionWith
namespace Go.Proofs.Ytoeilapjihbfhaa
open Go.RowKit
attribute [local go_sem] yes74 no74 yes69 no69 yes77 no77 yes82 no82 yes62 no62 yes91 no91 yes94 no94 yes97 no97 yes99 no99 yes101 no101 yes106 no106 yes110 no110 yes114 no114 yes121 no121 yes65 no65

theorem grown_set (w : World) (b i : Nat) (v : Value) : w.grownBy (w.setCell ⟨b, i, none⟩ v) (some b) := grown_setCell w ⟨b, i, none⟩ v
theorem far_cell {w : World} {a b : Addr} {v u : Value} (h : w.cell? b = some u) (hne : b.block ≠ a.block) : (w.setCell a v).cell? b = some u := by
  rw [World.cell?_setCell_other w a b v (fun e => hne (by rw [e]))]
  exact h

set_option maxRecDepth 100000 in
set_option maxHeartbeats 4000000 in
theorem fill_3 (b g a : Nat) (l : List Ty) (B : Nat → Nat) (nm : ByteArray) (size enc flag of idx : Int) (mem : List Mb) (At : Option Addr) (ct : Nat) (w : World)
    (hb : w.heap[b]? = some (.cells #[.nilIface, .nilIface, .int .u32 size] 71 (0, 0)))
    (hA : Arena w g a l B) (hl : l.length ≤ 30) (ho0 : 0 ≤ of) (ho1 : of ≤ l.length) (hi0 : 0 ≤ idx) (hi1 : idx ≤ l.length) :
    Calls Try.prog 29 #[.iface 69 (.pointer (some ⟨b, 0, none⟩)), tyV ⟨3, nm, size, enc, flag, of, idx, mem⟩ At ct, .func (.func 28) #[] #[.pointer (some ⟨g, 0, none⟩)]] w (FillPost b l B ⟨3, nm, size, enc, flag, of, idx, mem⟩ w) := by
  refine calls_ends fun P HP => ?_
  have HA := hid hA
  have HB := hid hb
  have hbn : w.heap.size ≠ b := Nat.ne_of_gt (lt_of_block hb)
  clear hA hb
  go_enter Try.func29, Try.ntmps29
  go_wp2_with fail
  go_region_held3 (fun W => W.cell? ⟨w.heap.size, 5, none⟩ = some (.int .i64 of) ∧ W.cell? ⟨w.heap.size, 6, none⟩ = some (.int .i64 idx))
    (first | exact ⟨by simp, by simp⟩ | exact ⟨q5, q6⟩ | exact ⟨far_cell q5 hbn, far_cell q6 hbn⟩ | exact ⟨far_cell (far_cell q5 hbn) hbn, far_cell (far_cell q6 hbn) hbn⟩)
    (first
      | (go_at_call_of 28 of; refine (at_calls g a l B of _ (HA.out.below (below_drew (box_below _ _))) hl ho0 ho1).mono ?_; rintro e w1 ⟨T, p, rfl, hat, hb1⟩; have q5 : w1.cell? ⟨w.heap.size, 5, none⟩ = some (.int .i64 of) := keep_cell hb1 (by simp); have q6 : w1.cell? ⟨w.heap.size, 6, none⟩ = some (.int .i64 idx) := keep_cell hb1 (by simp); have HB1 := hid (below_then (below_drew (box_below _ _)) hb1); clear hb1)
      | (go_at_call_of 28 idx; refine (at_calls g a l B idx _ (HA.out.below HB1.out) hl hi0 hi1).mono ?_; rintro e w2 ⟨T2, p2, rfl, hat2, hb2⟩; have q5 := keep_cell hb2 q5; have q6 := keep_cell hb2 q6; have HB2 := hid (below_then HB1.out hb2); clear hb2; have HK2 := hid (blk_below HB2.out HB.out); have c0 := blk_cell HK2.out; have f0 := blk_free HK2.out))
  go_wp2_with fail
  go_end0
  exact HP.out _ _ ⟨rfl, ((grown_of_below HB2.out _).trans (grown_set _ _ _ _)).trans (grown_set _ _ _ _), ⟨_, blk_setCell (blk_setCell HK2.out _ _) _ _, by simp, fun _ => ⟨T, p, rfl, hat⟩, by simp⟩⟩

set_option maxRecDepth 100000 in
set_option maxHeartbeats 4000000 in
theorem fill_4 (b g a : Nat) (l : List Ty) (B : Nat → Nat) (nm : ByteArray) (size enc flag of idx : Int) (mem : List Mb) (At : Option Addr) (ct : Nat) (w : World)
    (hb : w.heap[b]? = some (.cells #[.string nm, .int .u32 size, .slice none 0 0, .slice none 0 0] 81 (0, 0)))
    (hA : Arena w g a l B) (hl : l.length ≤ 30) (hM : Mems w At mem) (h8 : mem.length ≤ 8) (hmo : ∀ j, j < mem.length → MOk l.length (nthM mem j)) :
    Calls Try.prog 29 #[.iface 77 (.pointer (some ⟨b, 0, none⟩)), tyV ⟨4, nm, size, enc, flag, of, idx, mem⟩ At ct, .func (.func 28) #[] #[.pointer (some ⟨g, 0, none⟩)]] w (FillPost b l B ⟨4, nm, size, enc, flag, of, idx, mem⟩ w) := by
  refine calls_ends fun P HP => ?_
  have HA := hid hA
  have HB := hid hb
  have HM := hid hM
  have HMO := hid hmo
  clear hA hb hM hmo
  go_enter Try.func29, Try.ntmps29
  go_wp2_with (go_at_call 38; refine (members_calls g a l B At ct mem _ (HM.out.below (box_below _ _)) (HA.out.below (box_below _ _)) hl h8 HMO.out).mono ?_; rintro e w1 ⟨A', n', c', rfl, hb1⟩; have hb2 := blk_below hb1 (blk_below (box_below _ _) HB.out); have c0 := blk_cell hb2; have f0 := blk_free hb2; have HB2 := hid hb2; have HB1 := hid hb1; clear hb1 hb2)
  go_end0
  exact HP.out _ _ ⟨rfl, (grown_of_below (below_then (box_below _ _) HB1.out) _).trans (grown_setCell _ _ _), ⟨_, blk_setCell HB2.out _ _, by simp, by simp, by simp⟩⟩

set_option maxRecDepth 100000 in
set_option maxHeartbeats 4000000 in
theorem fill_5 (b g a : Nat) (l : List Ty) (B : Nat → Nat) (nm : ByteArray) (size enc flag of idx : Int) (mem : List Mb) (At : Option Addr) (ct : Nat) (w : World)
    (hb : w.heap[b]? = some (.cells #[.string nm, .int .u32 size, .slice none 0 0, .slice none 0 0] 83 (0, 0)))
    (hA : Arena w g a l B) (hl : l.length ≤ 30) (hM : Mems w At mem) (h8 : mem.length ≤ 8) (hmo : ∀ j, j < mem.length → MOk l.length (nthM mem j)) :
    Calls Try.prog 29 #[.iface 82 (.pointer (some ⟨b, 0, none⟩)), tyV ⟨5, nm, size, enc, flag, of, idx, mem⟩ At ct, .func (.func 28) #[] #[.pointer (some ⟨g, 0, none⟩)]] w (FillPost b l B ⟨5, nm, size, enc, flag, of, idx, mem⟩ w) := by
  refine calls_ends fun P HP => ?_
  have HA := hid hA
  have HB := hid hb
  have HM := hid hM
  have HMO := hid hmo
  clear hA hb hM hmo
  go_enter Try.func29, Try.ntmps29
  go_wp2_with (go_at_call 38; refine (members_calls g a l B At ct mem _ (HM.out.below (box_below _ _)) (HA.out.below (box_below _ _)) hl h8 HMO.out).mono ?_; rintro e w1 ⟨A', n', c', rfl, hb1⟩; have hb2 := blk_below hb1 (blk_below (box_below _ _) HB.out); have c0 := blk_cell hb2; have f0 := blk_free hb2; have HB2 := hid hb2; have HB1 := hid hb1; clear hb1 hb2)
  go_end0
  exact HP.out _ _ ⟨rfl, (grown_of_below (below_then (box_below _ _) HB1.out) _).trans (grown_setCell _ _ _), ⟨_, blk_setCell HB2.out _ _, by simp, by simp, by simp⟩⟩
end Go.Proofs.Ytoeilapjihbfhaa
