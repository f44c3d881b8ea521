/- The walk of detailsOk: some bool; if it is true, the type's members and what its kind has of its own lie in their bounds. -/
import Derived.Test.YtoeilapjihbfhaaOkB
namespace Go.Proofs.Ytoeilapjihbfhaa
open Go.RowKit

structure DOk (n : Nat) (t : Ty) : Prop where
  mems : ∀ j, j < t.mem.length → MOk n (nthM t.mem j)
  fl0 : 0 ≤ t.flag
  fl1 : t.flag ≤ 2
  int : t.kind = 1 → t.size = 1 ∨ t.size = 2 ∨ t.size = 4 ∨ t.size = 8 ∨ t.size = 16
  enc : t.kind = 1 → 0 ≤ t.enc ∧ t.enc ≤ 4
  enum : t.kind = 6 → t.size = 1 ∨ t.size = 2 ∨ t.size = 4
  enum64 : t.kind = 19 → t.size = 8

/-- What is told behind the loop over the members. -/
def Rest (kind size enc flag : Int) : Prop :=
  0 ≤ flag ∧ flag ≤ 2 ∧ (kind = 1 → size = 1 ∨ size = 2 ∨ size = 4 ∨ size = 8 ∨ size = 16) ∧ (kind = 1 → 0 ≤ enc ∧ enc ≤ 4) ∧ (kind = 6 → size = 1 ∨ size = 2 ∨ size = 4) ∧ (kind = 19 → size = 8)

theorem rest_mk {kind size enc flag : Int} (h0 : 0 ≤ flag) (h1 : flag ≤ 2) (hi : ¬ kind = 1 ∨ ((size = 1 ∨ size = 2 ∨ size = 4 ∨ size = 8 ∨ size = 16) ∧ 0 ≤ enc ∧ enc ≤ 4)) (he : ¬ kind = 6 ∨ size = 1 ∨ size = 2 ∨ size = 4) (hf : ¬ kind = 19 ∨ size = 8) : Rest kind size enc flag := by
  refine ⟨h0, h1, fun h => ?_, fun h => ?_, fun h => ?_, fun h => ?_⟩ <;> omega

def DPost (n : Nat) (t : Ty) (w : World) (e : Ending) (w' : World) : Prop := ∃ b, e = .returned (.bool b) ∧ (b = true → DOk n t) ∧ Below w.heap.size w w'

theorem box_below (w : World) (o : Obj) : Below w.heap.size w (w.alloc o) := below_alloc (Below.refl _ _) o
theorem below_box {w wr : World} {o : Obj} (h : Below (w.alloc o).heap.size (w.alloc o) wr) : Below w.heap.size w wr := below_then (box_below w o) h

set_option maxRecDepth 100000 in
set_option maxHeartbeats 8000000 in
theorem details_calls (A : Option Addr) (c : Nat) (l : List Ty) (t : Ty) (At : Option Addr) (ct : Nat) (w : World) (h : Types w A l) (hm : Mems w At t.mem) :
    Calls Try.prog 20 #[.slice A l.length c, tyV t At ct] w (DPost l.length t w) := by
  obtain ⟨kind, nm, size, enc, flag, of, idx, mem⟩ := t
  have hl := h.len
  have hml := hm.len
  have H := hid h
  have HM := hid hm
  clear h hm
  refine calls_ends fun P HP => ?_
  dsimp only at *
  go_enter Try.func20, Try.ntmps20
  go_wp2_with fail
  go_loopg [11] mem.length (fun gk i wr => ∃ k : Nat, k + gk = mem.length ∧ i = .int .i64 k ∧ Hid (∀ j, j < k → MOk l.length (nthM mem j)) ∧
    Hid (Below (w.alloc (.cells (tyCells ⟨kind, nm, size, enc, flag, of, idx, mem⟩ At ct) 30)).heap.size (w.alloc (.cells (tyCells ⟨kind, nm, size, enc, flag, of, idx, mem⟩ At ct) 30)) wr))
  case atStart => exact ⟨0, by simp, rfl, hid (fun j hj => absurd hj (Nat.not_lt_zero j)), hid (Below.refl _ _)⟩
  case round =>
    obtain ⟨k, hk, rfl, HO, HB⟩ := hrel
    have HK := hid hk
    clear hk
    by_cases hlt : k < mem.length
    · obtain ⟨b, o, rfl, hmb⟩ := (HM.out.below (below_box HB.out)).at_ hlt
      have h0 := hmb.c0
      have h1 := hmb.c1
      have h2 := hmb.c2
      have h3 := hmb.c3
      have h4 := hmb.c4
      have hsz := hmb.sz
      generalize hnm : nthM mem k = m at *
      have HNM := hid hnm
      clear hmb hnm
      have k0 : ∀ o', (wr.alloc o').cell? ⟨w.heap.size, 0, none⟩ = some (.int .i64 kind) := fun o' => keep_cell (box_below _ _) (keep_cell HB.out (by simp))
      have k1 : ∀ o', (wr.alloc o').cell? ⟨w.heap.size, 1, none⟩ = some (.string nm) := fun o' => keep_cell (box_below _ _) (keep_cell HB.out (by simp))
      have k2 : ∀ o', (wr.alloc o').cell? ⟨w.heap.size, 2, none⟩ = some (.int .i64 size) := fun o' => keep_cell (box_below _ _) (keep_cell HB.out (by simp))
      have k3 : ∀ o', (wr.alloc o').cell? ⟨w.heap.size, 3, none⟩ = some (.int .i64 enc) := fun o' => keep_cell (box_below _ _) (keep_cell HB.out (by simp))
      have k4 : ∀ o', (wr.alloc o').cell? ⟨w.heap.size, 4, none⟩ = some (.int .i64 flag) := fun o' => keep_cell (box_below _ _) (keep_cell HB.out (by simp))
      have k5 : ∀ o', (wr.alloc o').cell? ⟨w.heap.size, 5, none⟩ = some (.int .i64 of) := fun o' => keep_cell (box_below _ _) (keep_cell HB.out (by simp))
      have k6 : ∀ o', (wr.alloc o').cell? ⟨w.heap.size, 6, none⟩ = some (.int .i64 idx) := fun o' => keep_cell (box_below _ _) (keep_cell HB.out (by simp))
      have k7 : ∀ o', (wr.alloc o').cell? ⟨w.heap.size, 7, none⟩ = some (.slice (some ⟨b, o, none⟩) mem.length ct) := fun o' => keep_cell (box_below _ _) (keep_cell HB.out (by simp))
      go_wp2_with (go_at_call 25; refine (member_calls A c l ⟨kind, nm, size, enc, flag, of, idx, mem⟩ _ ct m _ (H.out.below (below_alloc (below_box HB.out) _)) hsz).mono ?_; rintro e w' ⟨bb, rfl, hbb, hb'⟩)
      · go_ret
        exact HP.out _ _ ⟨_, rfl, fun hq => by simp at hq, below_then (below_alloc (below_box HB.out) _) hb'⟩
      · go_roundg (gk - 1)
        case measure => have := HK.out; omega
        case rel =>
          refine ⟨k + 1, by have := HK.out; omega, by go_num, hid fun j hj => ?_, hid ?_⟩
          · rcases Nat.lt_succ_iff_lt_or_eq.1 hj with hj | rfl
            · exact HO.out j hj
            · rw [HNM.out]
              exact hbb (by simpa using ‹(!bb) = false›)
          · exact (below_then (below_alloc (Below.refl _ _) _) hb').mono HB.out.size |> HB.out.trans
    · obtain rfl : gk = 0 := by have := HK.out; omega
      have HMS : Hid (∀ j, j < mem.length → MOk l.length (nthM mem j)) := fun j hj => HO.out j (by omega)
      have hfin : ∀ (b : Bool) (v : World), (b = true → Rest kind size enc flag) → Below w.heap.size w v → Ends P (.returned (.bool b)) v := fun b v hr hbv =>
        HP.out _ _ ⟨b, rfl, fun hq => ⟨HMS.out, (hr hq).1, (hr hq).2.1, (hr hq).2.2.1, (hr hq).2.2.2.1, (hr hq).2.2.2.2.1, (hr hq).2.2.2.2.2⟩, hbv⟩
      have HF := hid hfin
      clear hfin
      have k0 : wr.cell? ⟨w.heap.size, 0, none⟩ = some (.int .i64 kind) := keep_cell HB.out (by simp)
      have k2 : wr.cell? ⟨w.heap.size, 2, none⟩ = some (.int .i64 size) := keep_cell HB.out (by simp)
      have k3 : wr.cell? ⟨w.heap.size, 3, none⟩ = some (.int .i64 enc) := keep_cell HB.out (by simp)
      have k4 : wr.cell? ⟨w.heap.size, 4, none⟩ = some (.int .i64 flag) := keep_cell HB.out (by simp)
      have k5 : wr.cell? ⟨w.heap.size, 5, none⟩ = some (.int .i64 of) := keep_cell HB.out (by simp)
      have k6 : wr.cell? ⟨w.heap.size, 6, none⟩ = some (.int .i64 idx) := keep_cell HB.out (by simp)
      have HW := hid (below_box HB.out)
      clear HMS
      go_wp2_with (go_at_call 11; refine (kindOf_calls _ c l _ _ (H.out.below HW.out)).mono ?_; rintro e w' ⟨rfl, rfl⟩)
      all_goals
        go_ret
        refine HF.out _ _ (fun hq => ?_) HW.out
        first
          | (exfalso; simp at hq; done)
          | (simp only [beq_iff_eq, beq_eq_false_iff_ne] at *; exact rest_mk (by omega) (by omega) (by omega) (by omega) (by omega))
          | (simp at hq; simp only [beq_iff_eq, beq_eq_false_iff_ne] at *; exact rest_mk (by omega) (by omega) (by omega) (by omega) (by omega))
end Go.Proofs.Ytoeilapjihbfhaa
