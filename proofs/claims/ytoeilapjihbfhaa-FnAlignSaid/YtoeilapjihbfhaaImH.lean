/- The walk of impl.fill for prototypes of functions: the steps of its region were printed by the program gen_region.py of this work. -/
import Derived.Test.YtoeilapjihbfhaaHeld
namespace Go.Proofs.Ytoeilapjihbfhaa
open Go.RowKit
set_option linter.unusedSimpArgs false
attribute [local go_sem] yes74 no74 yes69 no69 yes77 no77 yes82 no82 yes62 no62 yes91 no91 yes94 no94 yes97 no97 yes99 no99 yes101 no101 yes106 no106 yes110 no110 yes114 no114 yes121 no121 yes65 no65

theorem Try.info129 : (Try.prog.info? 129).map (fun i => (i.zero, i.size, i.bytes)) = some (some (.agg #[.string ⟨#[]⟩, .nilIface]), 2, 32) := by kernel_rfl

theorem Arena.grown {w w' : World} {g a b : Nat} {l : List Ty} {B : Nat → Nat} (h : Arena w g a l B) (hg : w.grownBy w' (some b)) (h1 : g ≠ b) (h2 : a ≠ b) : Arena w' g a l B :=
  ⟨grown_cell hg h.cell (fun e => h1 (by injection e)), fun j hj => grown_cell hg (h.out j hj) (fun e => h2 (by injection e))⟩

set_option maxRecDepth 100000 in
set_option maxHeartbeats 16000000 in
theorem fill_13 (b g a : Nat) (l : List Ty) (B : Nat → Nat) (nm : ByteArray) (size enc flag of idx : Int) (mem : List Mb) (At : Option Addr) (ct : Nat) (w0 w : World)
    (hb : w.heap[b]? = some (.cells #[.nilIface, .slice none 0 0] 109 (0, 0)))
    (hA : Arena w g a l B) (hgb : g ≠ b) (hab : a ≠ b) (hl : l.length ≤ 30) (ho0 : 0 ≤ of) (ho1 : of ≤ l.length)
    (hM : Mems w0 At mem) (hw : Below w0.heap.size w0 w) (hb0 : w0.heap.size ≤ b) (h8 : mem.length ≤ 8) (hmo : ∀ j, j < mem.length → MOk l.length (nthM mem j)) :
    Calls Try.prog 29 #[.iface 106 (.pointer (some ⟨b, 0, none⟩)), tyV ⟨13, nm, size, enc, flag, of, idx, mem⟩ At ct, .func (.func 28) #[] #[.pointer (some ⟨g, 0, none⟩)]] w (FillPost b l B ⟨13, nm, size, enc, flag, of, idx, mem⟩ w) := by
  refine calls_ends fun P HP => ?_
  have HLK : Hid (∀ (W : World) (u v : Value), W.heap[b]? = some (.cells #[u, v] 109 (0, 0)) → Linked W b l B ⟨13, nm, size, enc, flag, of, idx, mem⟩) := fun W u v h =>
    ⟨_, h, by simp, by simp, by simp⟩
  have hml := hM.len
  have HA := hid hA
  have HB := hid hb
  have HM := hid hM
  have HW := hid hw
  have H8 := hid h8
  have HMO := hid hmo
  have HBL := hid (lt_of_block hb)
  have hbn : w.heap.size ≠ b := Nat.ne_of_gt (lt_of_block hb)
  obtain ⟨i0, hi, hz0, hz1, hz2⟩ := info_parts Try.info129
  clear hA hb hM hw h8 hmo
  go_enter Try.func29, Try.ntmps29
  go_wp2_with (go_at_call 28; refine (at_calls g a l B of _ (HA.out.below (box_below _ _)) hl ho0 ho1).mono ?_; rintro e w1 ⟨T, p, rfl, _hat, hb1⟩; have hb2 := blk_below hb1 (blk_below (box_below _ _) HB.out); have c0 := blk_cell hb2; have f0 := blk_free hb2; have HB2 := hid hb2; have q7 : ∀ v, (w1.setCell ⟨b, 0, none⟩ v).cell? ⟨w.heap.size, 7, none⟩ = some (.slice At mem.length ct) := fun v => far_cell (keep_cell hb1 (by simp)) hbn; have HB1 := hid hb1; clear hb1 hb2)
  go_loopg [163] mem.length (fun gk i wr => ∃ (k : Nat) (v : Value) (xs : List Value), k + gk = mem.length ∧ i = .int .i64 k ∧ Hid (wr.heap[b]? = some (.cells #[.iface T (.pointer (some p)), v] 109 (0, 0))) ∧ Hid (wr.ownsRow w.heap.size 129 2 v k xs) ∧ Hid (w.grownBy wr (some b)))
  case atStart => exact ⟨0, _, [], by simp, rfl, hid (blk_setCell HB2.out 0 _), hid (World.ownsRow_nil _ _ _ _), hid (grown_then (grown_of_below (below_then (box_below _ _) HB1.out) _) (grown_set _ b 0 _) (by simp))⟩
  case round =>
    obtain ⟨k, v, xs, hk, rfl, HK0, HO, HG⟩ := hrel
    have HK := hid hk
    clear hk c0 f0 q7
    by_cases hlt : k < mem.length
    · obtain ⟨bm, o, rfl, hmb⟩ := (HM.out.below (below_of_grown HW.out HG.out hb0)).at_ hlt
      have hmo := HMO.out k hlt
      have h0 := hmb.c0
      have h1 := hmb.c1
      have h2 := hmb.c2
      have h3 := hmb.c3
      have h4 := hmb.c4
      generalize hnm : nthM mem k = m at *
      have g0 := hmo.of0
      have g1 := hmo.of1
      clear hmb hnm hmo
      go_wp2_with fail
      clear h0 h1 h2 h3 h4
      have HAR : Hid (Arena wr g a l B) := HA.out.grown HG.out hgb hab
      have C0 : Hid (∀ o1, ((wr.alloc o1).drew).cell? ⟨b, 1, none⟩ = some v) := fun o1 => keep_cell (below_drew (box_below _ _)) (blk_cell HK0.out 1)
      refine wp_region_D 16 (fun W => W.cell? ⟨b, 1, none⟩ = some v ∧ W.cell? ⟨wr.heap.size, 0, none⟩ = some (.string m.name) ∧ W.cell? ⟨wr.heap.size, 1, none⟩ = some (.int .i64 m.of)) (by kernel_rfl) ?_
      refine wpD_take (i := 0) (v := ?_) rfl (by kernel_rfl) (by kernel_rfl) (by kernel_rfl) (by kernel_rfl) (fun _ _ _ h => h) (.inl ⟨by rfl, ?_⟩) ⟨C0.out _, by simp, by simp⟩ ?_
      rotate_left
      · intro W hW
        (try dsimp only at hW)
        first | (go_simp; done) | (go_simp; with_reducible rfl)
      try simp only [Act.put, List.setIfInBounds_toArray, List.set_cons_zero, List.set_cons_succ]
      refine wpD_take (i := 1) (v := ?_) rfl (by kernel_rfl) (by kernel_rfl) (by kernel_rfl) (by kernel_rfl) (fun _ _ _ h => h) (.inl ⟨by rfl, ?_⟩) ⟨C0.out _, by simp, by simp⟩ ?_
      rotate_left
      · intro W hW
        (try dsimp only at hW)
        first | (go_simp; done) | (go_simp; with_reducible rfl)
      try simp only [Act.put, List.setIfInBounds_toArray, List.set_cons_zero, List.set_cons_succ]
      refine wpD_take (i := 2) (v := ?_) rfl (by kernel_rfl) (by kernel_rfl) (by kernel_rfl) (by kernel_rfl) (fun _ _ _ h => h) (.inl ⟨by rfl, ?_⟩) ⟨C0.out _, by simp, by simp⟩ ?_
      rotate_left
      · intro W hW
        (try dsimp only at hW)
        first | (go_simp; done) | (go_simp; with_reducible rfl)
      try simp only [Act.put, List.setIfInBounds_toArray, List.set_cons_zero, List.set_cons_succ]
      refine wpD_take (i := 3) (v := ?_) rfl (by kernel_rfl) (by kernel_rfl) (by kernel_rfl) (by kernel_rfl) (fun _ _ _ h => h) (.inl ⟨by rfl, ?_⟩) ⟨C0.out _, by simp, by simp⟩ ?_
      rotate_left
      · intro W hW
        (try dsimp only at hW)
        first | (go_simp; done) | (go_simp; with_reducible rfl)
      try simp only [Act.put, List.setIfInBounds_toArray, List.set_cons_zero, List.set_cons_succ]
      refine wpD_take (i := 4) (v := ?_) rfl (by kernel_rfl) (by kernel_rfl) (by kernel_rfl) (by kernel_rfl) (fun _ _ _ h => h) (.inl ⟨by rfl, ?_⟩) ⟨C0.out _, by simp, by simp⟩ ?_
      rotate_left
      · intro W hW
        (try dsimp only at hW)
        first | (go_simp; done) | (go_simp; with_reducible rfl)
      try simp only [Act.put, List.setIfInBounds_toArray, List.set_cons_zero, List.set_cons_succ]
      refine wpD_take (i := 5) (v := ?_) rfl (by kernel_rfl) (by kernel_rfl) (by kernel_rfl) (by kernel_rfl) (fun _ _ _ h => h) (.inl ⟨by rfl, ?_⟩) ⟨C0.out _, by simp, by simp⟩ ?_
      rotate_left
      · intro W hW
        (try dsimp only at hW)
        first | (go_simp; done) | (go_simp; with_reducible rfl)
      try simp only [Act.put, List.setIfInBounds_toArray, List.set_cons_zero, List.set_cons_succ]
      refine wpD_take (i := 6) (v := ?_) rfl (by kernel_rfl) (by kernel_rfl) (by kernel_rfl) (by kernel_rfl) (fun _ _ _ h => h) (.inl ⟨by rfl, ?_⟩) ⟨C0.out _, by simp, by simp⟩ ?_
      rotate_left
      · intro W hW
        (try dsimp only at hW)
        first | (go_simp; done) | (go_simp; with_reducible rfl)
      try simp only [Act.put, List.setIfInBounds_toArray, List.set_cons_zero, List.set_cons_succ]
      refine wpD_take (i := 7) (v := ?_) rfl (by kernel_rfl) (by kernel_rfl) (by kernel_rfl) (by kernel_rfl) (fun _ _ _ h => h) (.inl ⟨by rfl, ?_⟩) ⟨C0.out _, by simp, by simp⟩ ?_
      rotate_left
      · intro W hW
        (try dsimp only at hW)
        first | (go_simp; done) | (go_simp; with_reducible rfl)
      try simp only [Act.put, List.setIfInBounds_toArray, List.set_cons_zero, List.set_cons_succ]
      refine wpD_take (i := 8) (v := ?_) rfl (by kernel_rfl) (by kernel_rfl) (by kernel_rfl) (by kernel_rfl) (fun _ _ _ h => h) (.inl ⟨by rfl, ?_⟩) ⟨C0.out _, by simp, by simp⟩ ?_
      rotate_left
      · intro W hW
        (try dsimp only at hW)
        first | (go_simp; done) | (go_simp; with_reducible rfl)
      try simp only [Act.put, List.setIfInBounds_toArray, List.set_cons_zero, List.set_cons_succ]
      refine wpD_take (i := 9) (v := ?_) rfl (by kernel_rfl) (by kernel_rfl) (by kernel_rfl) (by kernel_rfl) (fun _ _ _ h => h) (.inl ⟨by rfl, ?_⟩) ⟨C0.out _, by simp, by simp⟩ ?_
      rotate_left
      · intro W hW
        (try dsimp only at hW)
        first | (go_simp; done) | (go_simp; with_reducible rfl)
      try simp only [Act.put, List.setIfInBounds_toArray, List.set_cons_zero, List.set_cons_succ]
      refine wpD_one (i := 10) rfl (by kernel_rfl) (fun K hK => ?_)
      go_simp
      refine (at_calls g a l B m.of _ (HAR.out.below (below_drew (box_below _ _))) hl g0 g1).mono ?_
      rintro e w3 ⟨T3, p3, rfl, _hat3, hc1⟩
      have HK3 := hid (blk_below hc1 (blk_below (below_drew (box_below _ _)) HK0.out))
      have C1 : Hid (w3.cell? ⟨b, 1, none⟩ = some v ∧ w3.cell? ⟨wr.heap.size, 0, none⟩ = some (.string m.name) ∧ w3.cell? ⟨wr.heap.size, 1, none⟩ = some (.int .i64 m.of)) := ⟨blk_cell HK3.out 1, keep_cell hc1 (by simp), keep_cell hc1 (by simp)⟩
      have HC1 := hid hc1
      clear hc1
      refine hK.out _ _ (fun _ => C1.out) ?_
      clear hK K
      try simp only [Act.put, List.setIfInBounds_toArray, List.set_cons_zero, List.set_cons_succ]
      refine wpD_take (i := 11) (v := ?_) rfl (by kernel_rfl) (by kernel_rfl) (by kernel_rfl) (by kernel_rfl) (fun _ _ _ h => h) (.inl ⟨by rfl, ?_⟩) C1.out ?_
      rotate_left
      · intro W hW
        (try dsimp only at hW)
        first | (go_simp; done) | (go_simp; with_reducible rfl)
      try simp only [Act.put, List.setIfInBounds_toArray, List.set_cons_zero, List.set_cons_succ]
      refine wpD_one (i := 12) rfl (by kernel_rfl) (fun K hK => ?_)
      go_simp
      refine hK.out _ _ (fun hne => ⟨keep_cell (box_below _ _) C1.out.1, keep_cell (box_below _ _) C1.out.2.1, keep_cell (box_below _ _) C1.out.2.2⟩) ?_
      clear hK K
      try simp only [Act.put, List.setIfInBounds_toArray, List.set_cons_zero, List.set_cons_succ]
      refine wpD_one (i := 13) rfl (by kernel_rfl) (fun K hK => ?_)
      refine step_append_lies _ rfl (.tmp 171) (.tmp 179) 107 rfl w.heap.size 129 i0 _ 2 32 Try.underlying107 hi hz0 hz1 hz2 rfl (by decide) v k xs (by simp [Act.eval]) ((own_below ((HO.out.alloc _).drew) HC1.out).alloc _) ⟨w3.heap.size, 0, none⟩ 1 1 [.string m.name, .iface T3 (.pointer (some p3))] (by simp [Act.eval]) rfl (World.news_of_block (heap_alloc_new _ _)) (by simp [Value.oneCell']) (by decide) (by unfold maxLen; have := H8.out; omega) (by have := H8.out; omega) (by have := HG.out.size; have := HC1.out.size; simp at *; omega) _ rfl ?_
      intro g2 cap w2 hown2 hgrow hat2 hlt2
      have HBK := hid (blk_grown hgrow (blk_below (box_below _ _) HK3.out) (own_ne HO.out HBL.out))
      have C2 : Hid (w2.cell? ⟨b, 1, none⟩ = some v ∧ w2.cell? ⟨wr.heap.size, 0, none⟩ = some (.string m.name) ∧ w2.cell? ⟨wr.heap.size, 1, none⟩ = some (.int .i64 m.of)) :=
        ⟨blk_cell HBK.out 1, grown_cell hgrow (keep_cell (box_below _ _) C1.out.2.1) (fun e => by have := (HO.out.lt _ e.symm).2; simp at this), grown_cell hgrow (keep_cell (box_below _ _) C1.out.2.2) (fun e => by have := (HO.out.lt _ e.symm).2; simp at this)⟩
      have HGR := hid hgrow
      have HO2 := hid hown2
      clear hgrow hown2 hat2 hlt2
      refine hK.out _ _ (fun _ => C2.out) ?_
      clear hK K
      try simp only [Act.put, List.setIfInBounds_toArray, List.set_cons_zero, List.set_cons_succ]
      refine wpD_one (i := 14) rfl (by kernel_rfl) (fun K hK => ?_)
      go_simp
      refine hK.out _ _ (fun hne => C2.out) ?_
      clear hK K
      try simp only [Act.put, List.setIfInBounds_toArray, List.set_cons_zero, List.set_cons_succ]
      refine wpD_one (i := 15) rfl (by kernel_rfl) (fun K hK => ?_)
      go_simp
      refine hK.out _ _ (fun hne => C2.out) ?_
      clear hK K
      try simp only [Act.put, List.setIfInBounds_toArray, List.set_cons_zero, List.set_cons_succ]
      have c9 := blk_cell HBK.out
      have f9 := blk_free HBK.out
      refine wpD_one (i := 16) rfl (by kernel_rfl) (fun K hK => ?_)
      go_simp
      refine hK.out _ _ (fun hne => absurd rfl hne) ?_
      clear hK K
      try simp only [Act.put, List.setIfInBounds_toArray, List.set_cons_zero, List.set_cons_succ]
      refine wpD_done (by kernel_rfl) ?_ _
      refine NoPanic.normal ?_
      clear c9 f9
      go_wp2_with fail
      go_roundg (gk - 1)
      case measure => have := HK.out; omega
      case rel =>
        refine ⟨k + 1, _, xs ++ [.string m.name, .iface T3 (.pointer (some p3))], by have := HK.out; omega, by go_num, blk_setCell HBK.out 1 _, ?_, ?_⟩
        · exact hid (HO2.out.kept (grown_set _ _ _ _) (.inr (fun e => own_ne HO2.out HBL.out e.symm)))
        · exact hid (grown_then (grown_then (grown_then HG.out (grown_of_below (below_alloc (below_then (below_drew (box_below _ _)) HC1.out) _) none) (by simp)) HGR.out (own_far HO.out)) (grown_set _ b 1 _) (by simp))
    · obtain rfl : gk = 0 := by have := HK.out; omega
      go_wp2_with fail
      go_end0
      exact HP.out _ _ ⟨rfl, HG.out, HLK.out _ _ _ HK0.out⟩
end Go.Proofs.Ytoeilapjihbfhaa
