/- The walks of the closure of impl.build (it hands back the type of a number) and of impl.members. -/
import Derived.Test.YtoeilapjihbfhaaImB
import Derived.Deep.RegionHeld3
import Derived.Deep.AppendLies
namespace Go.Proofs.Ytoeilapjihbfhaa
open Go.RowKit

/-- The types that have been made: a variable (block g) holds the slice of them (block a); the type at place j lies in block B j. -/
structure Arena (w : World) (g a : Nat) (l : List Ty) (B : Nat → Nat) : Prop where
  cell : w.cell? ⟨g, 0, none⟩ = some (.slice (some ⟨a, 0, none⟩) l.length l.length)
  out : ∀ j, j < l.length → w.cell? ⟨a, j, none⟩ = some (.iface (tidOf (nthT l j).kind) (.pointer (some ⟨B j, 0, none⟩)))

theorem Arena.below {w w' : World} {g a : Nat} {l : List Ty} {B : Nat → Nat} (h : Arena w g a l B) (hb : Below w.heap.size w w') : Arena w' g a l B :=
  ⟨keep_cell hb h.cell, fun j hj => keep_cell hb (h.out j hj)⟩

/-- What the closure hands back of a number: void, or the type of that number. -/
def AtV (l : List Ty) (B : Nat → Nat) (m : Int) (T : Nat) (p : Addr) : Prop := (m = 0 → T = 55) ∧ (1 ≤ m → T = tidOf (nthT l (m - 1).toNat).kind ∧ p = ⟨B (m - 1).toNat, 0, none⟩)

def AtPost (l : List Ty) (B : Nat → Nat) (m : Int) (w : World) (e : Ending) (w' : World) : Prop := ∃ T p, e = .returned (.iface T (.pointer (some p))) ∧ AtV l B m T p ∧ Below w.heap.size w w'

theorem at_calls (g a : Nat) (l : List Ty) (B : Nat → Nat) (m : Int) (w : World) (h : Arena w g a l B) (hl : l.length ≤ 30) (h0 : 0 ≤ m) (h1 : m ≤ l.length) :
    Calls Try.prog 28 #[.int .i64 m, .pointer (some ⟨g, 0, none⟩)] w (AtPost l B m w) := by
  refine calls_ends fun P HP => ?_
  by_cases hz : m = 0
  · subst hz
    have hfin : ∀ p o, Ends P (.returned (.iface 55 (.pointer (some p)))) (w.alloc o) := fun p o => HP.out _ _ ⟨55, p, rfl, ⟨fun _ => rfl, fun h => absurd h (by omega)⟩, box_below _ _⟩
    have HF := hid hfin
    clear h hfin
    go_enter Try.func28, Try.ntmps28
    go_wp2
    go_ret
    exact HF.out _ _
  · obtain ⟨k, rfl⟩ : ∃ k : Nat, m = k + 1 := ⟨(m - 1).toNat, by omega⟩
    have hk : k < l.length := by omega
    have hc := h.cell
    have ho := h.out k hk
    have hfin : Ends P (.returned (.iface (tidOf (nthT l k).kind) (.pointer (some ⟨B k, 0, none⟩)))) w :=
      HP.out _ _ ⟨_, _, rfl, ⟨fun h => absurd h hz, fun _ => by rw [show ((k : Int) + 1 - 1).toNat = k by omega]; exact ⟨rfl, rfl⟩⟩, Below.refl _ _⟩
    have HF := hid hfin
    have hz' : ((k : Int) + 1 == 0) = false := by simpa using hz
    generalize tidOf (nthT l k).kind = T at *
    clear h hfin hz
    go_enter Try.func28, Try.ntmps28
    go_wp2
    go_ret
    exact HF.out

theorem grown_cell {w w' : World} {row : Option Nat} (hg : w.grownBy w' row) {a : Addr} {v : Value} (hc : w.cell? a = some v) (hne : some a.block ≠ row) : w'.cell? a = some v :=
  (hg.cell_far a (World.block_lt_of_cell? w a hc) hne).trans hc
theorem below_grown {w w1 w2 : World} {row : Option Nat} (h : Below w.heap.size w w1) (hg : w1.grownBy w2 row) (hr : ∀ k, row = some k → w.heap.size ≤ k) : Below w.heap.size w w2 := h.grown hg h.size hr
theorem grown_of_below {w w1 : World} (h : Below w.heap.size w w1) (row : Option Nat) : w.grownBy w1 row := ⟨h.os, h.tape, h.output, h.size, fun i hi _ => h.block i hi⟩
theorem own_below {w w1 : World} {base : Nat} {e : TypeId} {size n : Nat} {v : Value} {xs : List Value} (h : w.ownsRow base e size v n xs) (hb : Below w.heap.size w w1) : w1.ownsRow base e size v n xs :=
  h.kept (grown_of_below hb none) (by cases v.ownBlock <;> simp)
theorem below_drew {w W : World} (h : Below w.heap.size w W) : Below w.heap.size w W.drew := ⟨h.os, h.tape, h.output, h.size, h.block⟩

theorem Try.info134 : (Try.prog.info? 134).map (fun i => (i.zero, i.size, i.bytes)) = some (some (.agg #[.string ⟨#[]⟩, .nilIface, .int .u32 0, .int .u32 0, .slice none 0 0]), 5, 64) := by kernel_rfl

def SlicePost (w : World) (e : Ending) (w' : World) : Prop := ∃ A n c, e = .returned (.slice A n c) ∧ Below w.heap.size w w'

set_option maxRecDepth 100000 in
set_option maxHeartbeats 4000000 in
theorem members_calls (g a : Nat) (l : List Ty) (B : Nat → Nat) (A : Option Addr) (c : Nat) (ms : List Mb) (w : World) (h : Mems w A ms) (hA : Arena w g a l B) (hl : l.length ≤ 30) (h8 : ms.length ≤ 8) (hmo : ∀ j, j < ms.length → MOk l.length (nthM ms j)) :
    Calls Try.prog 38 #[.slice A ms.length c, .func (.func 28) #[] #[.pointer (some ⟨g, 0, none⟩)]] w (SlicePost w) := by
  have hml := h.len
  have H := hid h
  have HA := hid hA
  have HMO := hid hmo
  have HL := hid hl
  have H8 := hid h8
  obtain ⟨i0, hi, hz0, hz1, hz2⟩ := info_parts Try.info134
  clear h hA hmo hl h8
  go_enter Try.func38, Try.ntmps38
  go_wp2_with fail
  go_loopg [5, 10] ms.length (fun gk v i wr => ∃ (k : Nat) (xs : List Value), k + gk = ms.length ∧ i = .int .i64 k ∧ Hid (wr.ownsRow w.heap.size 134 5 v k xs) ∧ Hid (Below w.heap.size w wr))
  case atStart => exact ⟨0, [], by simp, rfl, hid (World.ownsRow_nil w _ _ _), hid (Below.refl _ _)⟩
  case round =>
    obtain ⟨k, xs, hk, rfl, HO, HB⟩ := hrel
    have HK := hid hk
    clear hk
    by_cases hlt : k < ms.length
    · obtain ⟨b, o, rfl, hmb⟩ := (H.out.below HB.out).at_ hlt
      have hmo := HMO.out k hlt
      have h0 := hmb.c0
      have h1 := hmb.c1
      have h2 := hmb.c2
      have h3 := hmb.c3
      have h4 := hmb.c4
      generalize hnm : nthM ms k = m at *
      have g0 := hmo.of0
      have g1 := hmo.of1
      have g2 := hmo.off0
      have g3 := hmo.off1
      have g4 := hmo.bits0
      have g5 := hmo.bits1
      clear hmb hnm hmo
      have HNE : Hid (some wr.heap.size ≠ u5.ownBlock) := fun e => by have := (HO.out.lt _ e.symm).2; omega
      go_wp2_with fail
      go_region_held3 (fun W => W.cell? ⟨wr.heap.size, 0, none⟩ = some (.string m.name) ∧ W.cell? ⟨wr.heap.size, 1, none⟩ = some (.int .i64 m.of) ∧ W.cell? ⟨wr.heap.size, 2, none⟩ = some (.int .i64 m.off) ∧ W.cell? ⟨wr.heap.size, 3, none⟩ = some (.int .i64 m.bits))
        (first | exact ⟨by simp, by simp, by simp, by simp⟩ | exact ⟨q0, q1, q2, q3⟩ | exact ⟨keep_cell (box_below _ _) q0, keep_cell (box_below _ _) q1, keep_cell (box_below _ _) q2, keep_cell (box_below _ _) q3⟩)
        (first
          | (go_at_call 28; refine (at_calls g a l B m.of _ (HA.out.below (below_drew (below_alloc HB.out _))) HL.out (by omega) (by omega)).mono ?_; rintro e w1 ⟨T, p, rfl, hat, hb1⟩; have q0 : w1.cell? ⟨wr.heap.size, 0, none⟩ = some (.string m.name) := keep_cell hb1 (by simp); have q1 : w1.cell? ⟨wr.heap.size, 1, none⟩ = some (.int .i64 m.of) := keep_cell hb1 (by simp); have q2 : w1.cell? ⟨wr.heap.size, 2, none⟩ = some (.int .i64 m.off) := keep_cell hb1 (by simp); have q3 : w1.cell? ⟨wr.heap.size, 3, none⟩ = some (.int .i64 m.bits) := keep_cell hb1 (by simp))
          | (refine step_append_lies _ rfl (.tmp 14) (.tmp 28) 78 rfl w.heap.size 134 i0 _ 5 64 Try.underlying78 hi hz0 hz1 hz2 rfl (by decide) u5 k xs rfl ((own_below ((HO.out.alloc _).drew) hb1).alloc _) ⟨w1.heap.size, 0, none⟩ 1 1 [.string m.name, .iface T (.pointer (some p)), .int .u32 (IntKind.u32.wrap m.off), .int .u32 (IntKind.u32.wrap m.bits), .slice none 0 0] rfl rfl (World.news_of_block (heap_alloc_new _ _)) (by simp [Value.oneCell']) (by decide) (by unfold maxLen; have := H8.out; omega) (by have := H8.out; omega) (by have := HB.out.size; have := hb1.size; simp at *; omega) _ rfl ?_; intro g2 cap w2 hown2 hgrow hat2 hlt2; have q0 := grown_cell hgrow (keep_cell (box_below _ _) q0) HNE.out; have q1 := grown_cell hgrow (keep_cell (box_below _ _) q1) HNE.out; have q2 := grown_cell hgrow (keep_cell (box_below _ _) q2) HNE.out; have q3 := grown_cell hgrow (keep_cell (box_below _ _) q3) HNE.out))
      have HW : Hid (Below w.heap.size w w2) := below_grown (below_alloc (below_then (below_drew (below_alloc HB.out _)) hb1) _) hgrow (fun q hq => (HO.out.lt _ hq).1)
      have HO2 := hid hown2
      clear hown2 hgrow hat2 hlt2 hb1 hat q0 q1 q2 q3
      go_wp2_with fail
      go_roundg (gk - 1)
      case measure => have := HK.out; omega
      case rel => exact ⟨k + 1, _, by have := HK.out; omega, by go_num, HO2, HW⟩
    · obtain rfl : gk = 0 := by have := HK.out; omega
      rcases HO.out.2 with ⟨rfl, _⟩ | ⟨g1, cap, cur, rfl, _⟩
      · go_wp2_with fail
        go_ret
        exact ⟨_, _, _, rfl, HB.out⟩
      · go_wp2_with fail
        go_ret
        exact ⟨_, _, _, rfl, HB.out⟩

end Go.Proofs.Ytoeilapjihbfhaa
