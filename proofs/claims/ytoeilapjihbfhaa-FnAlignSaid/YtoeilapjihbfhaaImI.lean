/- The walk of impl.fill for sections: the steps of its region were printed by the program gen_region.py of this work. -/
import Derived.Test.YtoeilapjihbfhaaImH
namespace Go.Proofs.Ytoeilapjihbfhaa
open Go.RowKit
set_option linter.unusedSimpArgs false
attribute [local go_sem] yes74 no74 yes69 no69 yes77 no77 yes82 no82 yes62 no62 yes91 no91 yes94 no94 yes97 no97 yes99 no99 yes101 no101 yes106 no106 yes110 no110 yes114 no114 yes121 no121 yes65 no65

theorem Try.info131 : (Try.prog.info? 131).map (fun i => (i.zero, i.size, i.bytes)) = some (some (.agg #[.nilIface, .int .u32 0, .int .u32 0]), 3, 24) := by kernel_rfl

set_option maxRecDepth 100000 in
set_option maxHeartbeats 16000000 in
theorem fill_15 (b g a : Nat) (l : List Ty) (B : Nat → Nat) (nm : ByteArray) (size enc flag of idx : Int) (mem : List Mb) (At : Option Addr) (ct : Nat) (w0 w : World)
    (hb : w.heap[b]? = some (.cells #[.string nm, .int .u32 size, .slice none 0 0] 117 (0, 0)))
    (hA : Arena w g a l B) (hgb : g ≠ b) (hab : a ≠ b) (hl : l.length ≤ 30)
    (hM : Mems w0 At mem) (hw : Below w0.heap.size w0 w) (hb0 : w0.heap.size ≤ b) (h8 : mem.length ≤ 8) (hmo : ∀ j, j < mem.length → MOk l.length (nthM mem j)) :
    Calls Try.prog 29 #[.iface 114 (.pointer (some ⟨b, 0, none⟩)), tyV ⟨15, nm, size, enc, flag, of, idx, mem⟩ At ct, .func (.func 28) #[] #[.pointer (some ⟨g, 0, none⟩)]] w (FillPost b l B ⟨15, nm, size, enc, flag, of, idx, mem⟩ w) := by
  refine calls_ends fun P HP => ?_
  have HLK : Hid (∀ (W : World) (v : Value), W.heap[b]? = some (.cells #[.string nm, .int .u32 size, v] 117 (0, 0)) → Linked W b l B ⟨15, nm, size, enc, flag, of, idx, mem⟩) := fun W v h =>
    ⟨_, h, by simp, by simp, by simp⟩
  have hml := hM.len
  have HA := hid hA
  have HB := hid hb
  have HM := hid hM
  have HW := hid hw
  have H8 := hid h8
  have HMO := hid hmo
  have HBL := hid (lt_of_block hb)
  obtain ⟨i0, hi, hz0, hz1, hz2⟩ := info_parts Try.info131
  clear hA hb hM hw h8 hmo
  go_enter Try.func29, Try.ntmps29
  go_wp2_with fail
  go_loopg [200] mem.length (fun gk i wr => ∃ (k : Nat) (v : Value) (xs : List Value), k + gk = mem.length ∧ i = .int .i64 k ∧ Hid (wr.heap[b]? = some (.cells #[.string nm, .int .u32 size, v] 117 (0, 0))) ∧ Hid (wr.ownsRow w.heap.size 131 3 v k xs) ∧ Hid (w.grownBy wr (some b)))
  case atStart => exact ⟨0, _, [], by simp, rfl, hid (blk_below (box_below _ _) HB.out), hid (World.ownsRow_nil _ _ _ _), hid (grown_of_below (box_below _ _) _)⟩
  case round =>
    obtain ⟨k, v, xs, hk, rfl, HK0, HO, HG⟩ := hrel
    have HK := hid hk
    clear hk
    by_cases hlt : k < mem.length
    · obtain ⟨bm, o, rfl, hmb⟩ := (HM.out.below (below_of_grown HW.out HG.out hb0)).at_ hlt
      have hmo := HMO.out k hlt
      have h0 := hmb.c0
      have h1 := hmb.c1
      have h2 := hmb.c2
      have h3 := hmb.c3
      have h4 := hmb.c4
      generalize hnm : nthM mem k = m at *
      have g0 := hmo.of0
      have g1 := hmo.of1
      clear hmb hnm hmo
      go_wp2_with fail
      clear h0 h1 h2 h3 h4
      have HAR : Hid (Arena wr g a l B) := HA.out.grown HG.out hgb hab
      have C0 : Hid (∀ o1, ((wr.alloc o1).drew).cell? ⟨b, 2, none⟩ = some v) := fun o1 => keep_cell (below_drew (box_below _ _)) (blk_cell HK0.out 2)
      refine wp_region_D 20 (fun W => W.cell? ⟨b, 2, none⟩ = some v ∧ W.cell? ⟨wr.heap.size, 1, none⟩ = some (.int .i64 m.of) ∧ W.cell? ⟨wr.heap.size, 2, none⟩ = some (.int .i64 m.off) ∧ W.cell? ⟨wr.heap.size, 3, none⟩ = some (.int .i64 m.bits)) (by kernel_rfl) ?_
      refine wpD_take (i := 0) (v := ?_) rfl (by kernel_rfl) (by kernel_rfl) (by kernel_rfl) (by kernel_rfl) (fun _ _ _ h => h) (.inl ⟨by rfl, ?_⟩) ⟨C0.out _, by simp, by simp, by simp⟩ ?_
      rotate_left
      · intro W hW
        (try dsimp only at hW)
        first | (go_simp; done) | (go_simp; with_reducible rfl)
      try simp only [Act.put, List.setIfInBounds_toArray, List.set_cons_zero, List.set_cons_succ]
      refine wpD_take (i := 1) (v := ?_) rfl (by kernel_rfl) (by kernel_rfl) (by kernel_rfl) (by kernel_rfl) (fun _ _ _ h => h) (.inl ⟨by rfl, ?_⟩) ⟨C0.out _, by simp, by simp, by simp⟩ ?_
      rotate_left
      · intro W hW
        (try dsimp only at hW)
        first | (go_simp; done) | (go_simp; with_reducible rfl)
      try simp only [Act.put, List.setIfInBounds_toArray, List.set_cons_zero, List.set_cons_succ]
      refine wpD_take (i := 2) (v := ?_) rfl (by kernel_rfl) (by kernel_rfl) (by kernel_rfl) (by kernel_rfl) (fun _ _ _ h => h) (.inl ⟨by rfl, ?_⟩) ⟨C0.out _, by simp, by simp, by simp⟩ ?_
      rotate_left
      · intro W hW
        (try dsimp only at hW)
        first | (go_simp; done) | (go_simp; with_reducible rfl)
      try simp only [Act.put, List.setIfInBounds_toArray, List.set_cons_zero, List.set_cons_succ]
      refine wpD_take (i := 3) (v := ?_) rfl (by kernel_rfl) (by kernel_rfl) (by kernel_rfl) (by kernel_rfl) (fun _ _ _ h => h) (.inl ⟨by rfl, ?_⟩) ⟨C0.out _, by simp, by simp, by simp⟩ ?_
      rotate_left
      · intro W hW
        (try dsimp only at hW)
        first | (go_simp; done) | (go_simp; with_reducible rfl)
      try simp only [Act.put, List.setIfInBounds_toArray, List.set_cons_zero, List.set_cons_succ]
      refine wpD_take (i := 4) (v := ?_) rfl (by kernel_rfl) (by kernel_rfl) (by kernel_rfl) (by kernel_rfl) (fun _ _ _ h => h) (.inl ⟨by rfl, ?_⟩) ⟨C0.out _, by simp, by simp, by simp⟩ ?_
      rotate_left
      · intro W hW
        (try dsimp only at hW)
        first | (go_simp; done) | (go_simp; with_reducible rfl)
      try simp only [Act.put, List.setIfInBounds_toArray, List.set_cons_zero, List.set_cons_succ]
      refine wpD_take (i := 5) (v := ?_) rfl (by kernel_rfl) (by kernel_rfl) (by kernel_rfl) (by kernel_rfl) (fun _ _ _ h => h) (.inl ⟨by rfl, ?_⟩) ⟨C0.out _, by simp, by simp, by simp⟩ ?_
      rotate_left
      · intro W hW
        (try dsimp only at hW)
        first | (go_simp; done) | (go_simp; with_reducible rfl)
      try simp only [Act.put, List.setIfInBounds_toArray, List.set_cons_zero, List.set_cons_succ]
      refine wpD_take (i := 6) (v := ?_) rfl (by kernel_rfl) (by kernel_rfl) (by kernel_rfl) (by kernel_rfl) (fun _ _ _ h => h) (.inl ⟨by rfl, ?_⟩) ⟨C0.out _, by simp, by simp, by simp⟩ ?_
      rotate_left
      · intro W hW
        (try dsimp only at hW)
        first | (go_simp; done) | (go_simp; with_reducible rfl)
      try simp only [Act.put, List.setIfInBounds_toArray, List.set_cons_zero, List.set_cons_succ]
      refine wpD_take (i := 7) (v := ?_) rfl (by kernel_rfl) (by kernel_rfl) (by kernel_rfl) (by kernel_rfl) (fun _ _ _ h => h) (.inl ⟨by rfl, ?_⟩) ⟨C0.out _, by simp, by simp, by simp⟩ ?_
      rotate_left
      · intro W hW
        (try dsimp only at hW)
        first | (go_simp; done) | (go_simp; with_reducible rfl)
      try simp only [Act.put, List.setIfInBounds_toArray, List.set_cons_zero, List.set_cons_succ]
      refine wpD_take (i := 9) (v := ?_) rfl (by kernel_rfl) (by kernel_rfl) (by kernel_rfl) (by kernel_rfl) (fun _ _ _ h => h) (.inl ⟨by rfl, ?_⟩) ⟨C0.out _, by simp, by simp, by simp⟩ ?_
      rotate_left
      · intro W hW
        (try dsimp only at hW)
        first | (go_simp; done) | (go_simp; with_reducible rfl)
      try simp only [Act.put, List.setIfInBounds_toArray, List.set_cons_zero, List.set_cons_succ]
      refine wpD_take (i := 10) (v := ?_) rfl (by kernel_rfl) (by kernel_rfl) (by kernel_rfl) (by kernel_rfl) (fun _ _ _ h => h) (.inl ⟨by rfl, ?_⟩) ⟨C0.out _, by simp, by simp, by simp⟩ ?_
      rotate_left
      · intro W hW
        (try dsimp only at hW)
        first | (go_simp; done) | (go_simp; with_reducible rfl)
      try simp only [Act.put, List.setIfInBounds_toArray, List.set_cons_zero, List.set_cons_succ]
      refine wpD_take (i := 11) (v := ?_) rfl (by kernel_rfl) (by kernel_rfl) (by kernel_rfl) (by kernel_rfl) (fun _ _ _ h => h) (.inl ⟨by rfl, ?_⟩) ⟨C0.out _, by simp, by simp, by simp⟩ ?_
      rotate_left
      · intro W hW
        (try dsimp only at hW)
        first | (go_simp; done) | (go_simp; with_reducible rfl)
      try simp only [Act.put, List.setIfInBounds_toArray, List.set_cons_zero, List.set_cons_succ]
      refine wpD_take (i := 12) (v := ?_) rfl (by kernel_rfl) (by kernel_rfl) (by kernel_rfl) (by kernel_rfl) (fun _ _ _ h => h) (.inl ⟨by rfl, ?_⟩) ⟨C0.out _, by simp, by simp, by simp⟩ ?_
      rotate_left
      · intro W hW
        (try dsimp only at hW)
        first | (go_simp; done) | (go_simp; with_reducible rfl)
      try simp only [Act.put, List.setIfInBounds_toArray, List.set_cons_zero, List.set_cons_succ]
      refine wpD_take (i := 13) (v := ?_) rfl (by kernel_rfl) (by kernel_rfl) (by kernel_rfl) (by kernel_rfl) (fun _ _ _ h => h) (.inl ⟨by rfl, ?_⟩) ⟨C0.out _, by simp, by simp, by simp⟩ ?_
      rotate_left
      · intro W hW
        (try dsimp only at hW)
        first | (go_simp; done) | (go_simp; with_reducible rfl)
      try simp only [Act.put, List.setIfInBounds_toArray, List.set_cons_zero, List.set_cons_succ]
      refine wpD_take (i := 14) (v := ?_) rfl (by kernel_rfl) (by kernel_rfl) (by kernel_rfl) (by kernel_rfl) (fun _ _ _ h => h) (.inl ⟨by rfl, ?_⟩) ⟨C0.out _, by simp, by simp, by simp⟩ ?_
      rotate_left
      · intro W hW
        (try dsimp only at hW)
        first | (go_simp; done) | (go_simp; with_reducible rfl)
      try simp only [Act.put, List.setIfInBounds_toArray, List.set_cons_zero, List.set_cons_succ]
      refine wpD_one (i := 8) rfl (by kernel_rfl) (fun K hK => ?_)
      go_simp
      refine (at_calls g a l B m.of _ (HAR.out.below (below_drew (box_below _ _))) hl g0 g1).mono ?_
      rintro e w3 ⟨T3, p3, rfl, _hat3, hc1⟩
      have HK3 := hid (blk_below hc1 (blk_below (below_drew (box_below _ _)) HK0.out))
      have C1 : Hid (w3.cell? ⟨b, 2, none⟩ = some v ∧ w3.cell? ⟨wr.heap.size, 1, none⟩ = some (.int .i64 m.of) ∧ w3.cell? ⟨wr.heap.size, 2, none⟩ = some (.int .i64 m.off) ∧ w3.cell? ⟨wr.heap.size, 3, none⟩ = some (.int .i64 m.bits)) := ⟨blk_cell HK3.out 2, keep_cell hc1 (by simp), keep_cell hc1 (by simp), keep_cell hc1 (by simp)⟩
      have HC1 := hid hc1
      clear hc1
      refine hK.out _ _ (fun _ => C1.out) ?_
      clear hK K
      try simp only [Act.put, List.setIfInBounds_toArray, List.set_cons_zero, List.set_cons_succ]
      refine wpD_take (i := 15) (v := ?_) rfl (by kernel_rfl) (by kernel_rfl) (by kernel_rfl) (by kernel_rfl) (fun _ _ _ h => h) (.inl ⟨by rfl, ?_⟩) C1.out ?_
      rotate_left
      · intro W hW
        (try dsimp only at hW)
        first | (go_simp; done) | (go_simp; with_reducible rfl)
      try simp only [Act.put, List.setIfInBounds_toArray, List.set_cons_zero, List.set_cons_succ]
      refine wpD_one (i := 16) rfl (by kernel_rfl) (fun K hK => ?_)
      go_simp
      refine hK.out _ _ (fun hne => ⟨keep_cell (box_below _ _) C1.out.1, keep_cell (box_below _ _) C1.out.2.1, keep_cell (box_below _ _) C1.out.2.2.1, keep_cell (box_below _ _) C1.out.2.2.2⟩) ?_
      clear hK K
      try simp only [Act.put, List.setIfInBounds_toArray, List.set_cons_zero, List.set_cons_succ]
      refine wpD_one (i := 17) rfl (by kernel_rfl) (fun K hK => ?_)
      refine step_append_lies _ rfl (.tmp 208) (.tmp 220) 115 rfl w.heap.size 131 i0 _ 3 24 Try.underlying115 hi hz0 hz1 hz2 rfl (by decide) v k xs (by simp [Act.eval]) ((own_below ((HO.out.alloc _).drew) HC1.out).alloc _) ⟨w3.heap.size, 0, none⟩ 1 1 [.iface T3 (.pointer (some p3)), .int .u32 (IntKind.u32.wrap m.off), .int .u32 (IntKind.u32.wrap m.bits)] (by simp [Act.eval]) rfl (World.news_of_block (heap_alloc_new _ _)) (by simp [Value.oneCell']) (by decide) (by unfold maxLen; have := H8.out; omega) (by have := H8.out; omega) (by have := HG.out.size; have := HC1.out.size; simp at *; omega) _ rfl ?_
      intro g2 cap w2 hown2 hgrow hat2 hlt2
      have HBK := hid (blk_grown hgrow (blk_below (box_below _ _) HK3.out) (own_ne HO.out HBL.out))
      have hfar : some wr.heap.size ≠ v.ownBlock := fun e => by have := (HO.out.lt _ e.symm).2; simp at this
      have C2 : Hid (w2.cell? ⟨b, 2, none⟩ = some v ∧ w2.cell? ⟨wr.heap.size, 1, none⟩ = some (.int .i64 m.of) ∧ w2.cell? ⟨wr.heap.size, 2, none⟩ = some (.int .i64 m.off) ∧ w2.cell? ⟨wr.heap.size, 3, none⟩ = some (.int .i64 m.bits)) :=
        ⟨blk_cell HBK.out 2, grown_cell hgrow (keep_cell (box_below _ _) C1.out.2.1) hfar, grown_cell hgrow (keep_cell (box_below _ _) C1.out.2.2.1) hfar, grown_cell hgrow (keep_cell (box_below _ _) C1.out.2.2.2) hfar⟩
      have HGR := hid hgrow
      have HO2 := hid hown2
      clear hgrow hown2 hat2 hlt2 hfar
      refine hK.out _ _ (fun _ => C2.out) ?_
      clear hK K
      try simp only [Act.put, List.setIfInBounds_toArray, List.set_cons_zero, List.set_cons_succ]
      refine wpD_one (i := 18) rfl (by kernel_rfl) (fun K hK => ?_)
      go_simp
      refine hK.out _ _ (fun hne => C2.out) ?_
      clear hK K
      try simp only [Act.put, List.setIfInBounds_toArray, List.set_cons_zero, List.set_cons_succ]
      refine wpD_one (i := 19) rfl (by kernel_rfl) (fun K hK => ?_)
      go_simp
      refine hK.out _ _ (fun hne => C2.out) ?_
      clear hK K
      try simp only [Act.put, List.setIfInBounds_toArray, List.set_cons_zero, List.set_cons_succ]
      have c9 := blk_cell HBK.out
      have f9 := blk_free HBK.out
      refine wpD_one (i := 20) rfl (by kernel_rfl) (fun K hK => ?_)
      go_simp
      refine hK.out _ _ (fun hne => absurd rfl hne) ?_
      clear hK K
      try simp only [Act.put, List.setIfInBounds_toArray, List.set_cons_zero, List.set_cons_succ]
      refine wpD_done (by kernel_rfl) ?_ _
      refine NoPanic.normal ?_
      clear c9 f9
      go_wp2_with fail
      go_roundg (gk - 1)
      case measure => have := HK.out; omega
      case rel =>
        refine ⟨k + 1, _, xs ++ [.iface T3 (.pointer (some p3)), .int .u32 (IntKind.u32.wrap m.off), .int .u32 (IntKind.u32.wrap m.bits)], by have := HK.out; omega, by go_num, blk_setCell HBK.out 2 _, ?_, ?_⟩
        · exact hid (HO2.out.kept (grown_set _ _ _ _) (.inr (fun e => own_ne HO2.out HBL.out e.symm)))
        · exact hid (grown_then (grown_then (grown_then HG.out (grown_of_below (below_alloc (below_then (below_drew (box_below _ _)) HC1.out) _) none) (by simp)) HGR.out (own_far HO.out)) (grown_set _ b 2 _) (by simp))
    · obtain rfl : gk = 0 := by have := HK.out; omega
      go_wp2_with fail
      go_end0
      exact HP.out _ _ ⟨rfl, HG.out, HLK.out _ _ HK0.out⟩
end Go.Proofs.Ytoeilapjihbfhaa
