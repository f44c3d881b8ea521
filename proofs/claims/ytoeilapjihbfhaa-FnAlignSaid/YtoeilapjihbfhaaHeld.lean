/- A region that draws its order, whose last operation may write what the others read: a load may be taken first where the last operation waits for it. -/
import Derived.Test.YtoeilapjihbfhaaImG
namespace Go.Proofs.Ytoeilapjihbfhaa
open Go.RowKit

section
variable {P : Program} {ops : Array Oper} {Q : Exit → Act → World → Prop} {md : Region.Mode} {C : World → Prop} {s : Nat}

/-- Whatever order is drawn; behind every operation but number s the condition C holds of the world. -/
def wpD (P : Program) (md : Region.Mode) (ops : Array Oper) (Q : Exit → Act → World → Prop) (s : Nat) (C : World → Prop) : Nat → Array Bool → Act → World → Prop
  | 0, listed, a, w => Region.ready md ops listed = [] ∧ Q .normal a w
  | fuel + 1, listed, a, w =>
    (Region.ready md ops listed = [] → Q .normal a w) ∧
    ∀ i ∈ Region.ready md ops listed, wpOp P ops Q i (fun a' w' => (i ≠ s → C w') ∧ wpD P md ops Q s C fuel (listed.setIfInBounds i true) a' w') a w

theorem wpAny_of_wpD : ∀ (fuel : Nat) (listed : Array Bool) (a : Act) (w : World), wpD P md ops Q s C fuel listed a w → wpAny P md ops Q fuel listed a w
  | 0, _, _, _, h => h
  | fuel + 1, _, _, _, h => ⟨h.1, fun i hi => wpOp_mono (fun a' w' h' => wpAny_of_wpD fuel _ a' w' h'.2) (h.2 i hi)⟩

/-- Does operation number s wait for number i? -/
def awaits (md : Region.Mode) (ops : Array Oper) (s i : Nat) : Bool :=
  match ops[s]? with
  | some o => o.after.any fun e => Region.binds md e && e.on == i
  | none => false

theorem awaits_spec {i : Nat} {o : Oper} (ho : ops[s]? = some o) (h : awaits md ops s i = true) : ∃ e ∈ o.after, Region.binds md e = true ∧ e.on = i := by
  simp only [awaits, ho] at h
  obtain ⟨e, he, hb⟩ := Array.any_eq_true'.1 h
  simp only [Bool.and_eq_true, beq_iff_eq] at hb
  exact ⟨e, he, hb⟩

theorem wpD_first {i : Nat} {oi : Oper} {v : Value} (hi : ops[i]? = some oi) (hsel : ∀ (j : Nat) (o : Oper) cs b, ops[j]? = some o → o.op ≠ .select cs b)
    (hQ : ∀ c a w, Q (.panic c) (a.put oi.dst v) w → Q (.panic c) a w) (hw : awaits md ops s i = true) :
    ∀ (fuel : Nat) (listed : Array Bool) (a : Act) (w : World),
      (∀ j oj, ops[j]? = some oj → j ≠ i → listed.getD j true = false → (∀ e ∈ oj.after, Region.binds md e = true → e.on ≠ i) → oi.apart ops oj = true) →
      i ∈ Region.ready md ops listed → YieldsIf P ops C oi v a → C w →
      wpD P md ops Q s C fuel (listed.setIfInBounds i true) (a.put oi.dst v) w → wpD P md ops Q s C (fuel + 1) listed a w := by
  intro fuel
  induction fuel with
  | zero =>
    intro listed a w _ hr hy hC H
    refine ⟨fun h => (by rw [h] at hr; cases hr), fun j hj => ?_⟩
    by_cases hji : j = i
    · subst hji
      exact hy.wpOp hi hC ⟨fun _ => hC, H⟩
    · have hn := ready_mono hj hji
      rw [H.1] at hn
      cases hn
  | succ fuel ih =>
    intro listed a w hfree hr hy hC H
    refine ⟨fun h => (by rw [h] at hr; cases hr), fun j hj => ?_⟩
    by_cases hji : j = i
    · subst hji
      exact hy.wpOp hi hC ⟨fun _ => hC, H⟩
    · have h1 := H.2 j (ready_mono hj hji)
      obtain ⟨hjun, oj, hoj, hall⟩ := mem_ready.1 hj
      have hnot : ∀ e ∈ oj.after, Region.binds md e = true → e.on ≠ i := fun e he hb heq => by
        have q1 := hall e he hb
        have q0 := (mem_ready.1 hr).1
        rw [heq] at q1
        rcases Nat.lt_or_ge i listed.size with h' | h'
        · simp [h'] at q0 q1
          rw [q0] at q1
          cases q1
        · simp [Array.getElem?_eq_none h'] at q1
      have hjs : j ≠ s := fun e => by
        subst e
        obtain ⟨ed, he, hb, hon⟩ := awaits_spec hoj hw
        exact hnot ed he hb hon
      have h2 := wpOp_putIf hoj (hfree j oj hoj hji hjun hnot) (fun cs b => hsel i oi cs b hi) (fun cs b => hsel j oj cs b hoj) hQ hy h1
      have hfree' : ∀ k ok, ops[k]? = some ok → k ≠ i → (listed.setIfInBounds j true).getD k true = false →
          (∀ e ∈ ok.after, Region.binds md e = true → e.on ≠ i) → oi.apart ops ok = true := fun k ok hk hki hun hno => by
        refine hfree k ok hk hki ?_ hno
        by_cases hjk : j = k
        · subst hjk
          exact hjun
        · rw [getD_set_ne true hjk] at hun
          exact hun
      refine wpOp_mono (fun a' w' h3 => ⟨h3.2.1, ih (listed.setIfInBounds j true) a' w' hfree' (ready_mono hr (Ne.symm hji)) h3.1 (h3.2.1 hjs) ?_⟩) h2
      rw [Array.setIfInBounds_comm _ _ hji]
      exact h3.2.2

/-- Number i first. -/
theorem wpD_take {i : Nat} {oi : Oper} {v : Value} {fuel : Nat} {listed : Array Bool} {a : Act} {w : World} (hi : ops[i]? = some oi)
    (hs : Region.noSelect ops = true) (hf : Region.free md ops listed i = true) (hr : (Region.ready md ops listed).contains i = true) (hw : awaits md ops s i = true)
    (hQ : ∀ c a w, Q (.panic c) (a.put oi.dst v) w → Q (.panic c) a w) (hy : YieldsIf P ops C oi v a) (hC : C w)
    (h : wpD P md ops Q s C fuel (listed.setIfInBounds i true) (a.put oi.dst v) w) : wpD P md ops Q s C (fuel + 1) listed a w :=
  wpD_first hi (Region.noSelect_spec hs) hQ hw fuel listed a w (Region.free_spec hi hf) (by simpa using hr) hy hC h

/-- The one that may come up comes up. -/
theorem wpD_one {i : Nat} {o : Oper} {fuel : Nat} {listed : Array Bool} {a : Act} {w : World} (ho : ops[i]? = some o) (hr : Region.ready md ops listed = [i])
    (h : ∀ K' : Act → World → Prop, Shut (∀ a w, (i ≠ s → C w) → wpD P md ops Q s C fuel (listed.setIfInBounds i true) a w → K' a w) → if Region.wanted o (yielded ops a.tmps) = true then Oper.wp P o a w K' Q else K' (a.put o.dst undef) w) :
    wpD P md ops Q s C (fuel + 1) listed a w := by
  refine ⟨fun h0 => absurd (hr ▸ h0) (by simp), fun j hj => ?_⟩
  rw [hr] at hj
  obtain rfl : j = i := by simpa using hj
  exact wpOp_step ho (fun K' hK => h K' (fun a w hC hW => hK a w ⟨hC, hW⟩))

theorem wpD_done {listed : Array Bool} {a : Act} {w : World} (hr : Region.ready md ops listed = []) (h : Q .normal a w) : ∀ fuel, wpD P md ops Q s C fuel listed a w
  | 0 => ⟨hr, h⟩
  | _ + 1 => ⟨fun _ => h, by rw [hr]; simp⟩

theorem wp_region_D {id : Nat} {a : Act} {w : World} (s : Nat) (C : World → Prop) (hm : P.follows .mixedOrders = true)
    (h : wpD P .any ops (NoPanic Q) s C ops.size (Array.replicate ops.size false) a w.drew) : (Code.region id ops true).wp P Q a w :=
  wp_region_noPanic (wp_region_any hm (wpAny_of_wpD _ _ _ _ h))
end

end Go.Proofs.Ytoeilapjihbfhaa
