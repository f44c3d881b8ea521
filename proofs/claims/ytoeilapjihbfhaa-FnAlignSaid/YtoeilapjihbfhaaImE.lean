/- The walks of impl.fill for the kinds that it leaves alone, and for those of one store: printed by the program gen_fill.py of this work. -/
import Derived.Test.YtoeilapjihbfhaaImD
namespace Go.Proofs.Ytoeilapjihbfhaa
open Go.RowKit
attribute [local go_sem] yes74 no74 yes69 no69 yes77 no77 yes82 no82 yes62 no62 yes91 no91 yes94 no94 yes97 no97 yes99 no99 yes101 no101 yes106 no106 yes110 no110 yes114 no114 yes121 no121 yes65 no65

set_option maxRecDepth 100000 in
set_option maxHeartbeats 4000000 in
theorem fill_1 (b g _a : Nat) (l : List Ty) (B : Nat → Nat) (nm : ByteArray) (size enc flag of idx : Int) (mem : List Mb) (At : Option Addr) (ct : Nat) (w : World)
    (hb : w.heap[b]? = some (.cells #[.string nm, .int .u32 size, .int .u8 enc] 68 (0, 0))) :
    Calls Try.prog 29 #[.iface 65 (.pointer (some ⟨b, 0, none⟩)), tyV ⟨1, nm, size, enc, flag, of, idx, mem⟩ At ct, .func (.func 28) #[] #[.pointer (some ⟨g, 0, none⟩)]] w (FillPost b l B ⟨1, nm, size, enc, flag, of, idx, mem⟩ w) := by
  refine calls_ends fun P HP => ?_
  have HF : Hid (∀ o, Ends P (.returned (.tuple #[])) (w.alloc o)) := fun o => HP.out _ _ ⟨rfl, World.grownBy_alloc _ _ _, ⟨_, blk_below (box_below _ _) hb, by simp, by simp, by simp⟩⟩
  clear hb
  go_enter Try.func29, Try.ntmps29
  go_wp2_with fail
  go_end0
  exact HF.out _

set_option maxRecDepth 100000 in
set_option maxHeartbeats 4000000 in
theorem fill_7 (b g _a : Nat) (l : List Ty) (B : Nat → Nat) (nm : ByteArray) (size enc flag of idx : Int) (mem : List Mb) (At : Option Addr) (ct : Nat) (w : World)
    (hb : w.heap[b]? = some (.cells #[.string nm, .int .i64 flag] 90 (0, 0))) :
    Calls Try.prog 29 #[.iface 87 (.pointer (some ⟨b, 0, none⟩)), tyV ⟨7, nm, size, enc, flag, of, idx, mem⟩ At ct, .func (.func 28) #[] #[.pointer (some ⟨g, 0, none⟩)]] w (FillPost b l B ⟨7, nm, size, enc, flag, of, idx, mem⟩ w) := by
  refine calls_ends fun P HP => ?_
  have HF : Hid (∀ o, Ends P (.returned (.tuple #[])) (w.alloc o)) := fun o => HP.out _ _ ⟨rfl, World.grownBy_alloc _ _ _, ⟨_, blk_below (box_below _ _) hb, by simp, by simp, by simp⟩⟩
  clear hb
  go_enter Try.func29, Try.ntmps29
  go_wp2_with fail
  go_end0
  exact HF.out _

set_option maxRecDepth 100000 in
set_option maxHeartbeats 4000000 in
theorem fill_16 (b g _a : Nat) (l : List Ty) (B : Nat → Nat) (nm : ByteArray) (size enc flag of idx : Int) (mem : List Mb) (At : Option Addr) (ct : Nat) (w : World)
    (hb : w.heap[b]? = some (.cells #[.string nm, .int .u32 size] 120 (0, 0))) :
    Calls Try.prog 29 #[.iface 118 (.pointer (some ⟨b, 0, none⟩)), tyV ⟨16, nm, size, enc, flag, of, idx, mem⟩ At ct, .func (.func 28) #[] #[.pointer (some ⟨g, 0, none⟩)]] w (FillPost b l B ⟨16, nm, size, enc, flag, of, idx, mem⟩ w) := by
  refine calls_ends fun P HP => ?_
  have HF : Hid (∀ o, Ends P (.returned (.tuple #[])) (w.alloc o)) := fun o => HP.out _ _ ⟨rfl, World.grownBy_alloc _ _ _, ⟨_, blk_below (box_below _ _) hb, by simp, by simp, by simp⟩⟩
  clear hb
  go_enter Try.func29, Try.ntmps29
  go_wp2_with fail
  go_end0
  exact HF.out _

set_option maxRecDepth 100000 in
set_option maxHeartbeats 4000000 in
theorem fill_2 (b g a : Nat) (l : List Ty) (B : Nat → Nat) (nm : ByteArray) (size enc flag of idx : Int) (mem : List Mb) (At : Option Addr) (ct : Nat) (w : World)
    (hb : w.heap[b]? = some (.cells #[.nilIface] 76 (0, 0)))
    (hA : Arena w g a l B) (hl : l.length ≤ 30) (ho0 : 0 ≤ of) (ho1 : of ≤ l.length) :
    Calls Try.prog 29 #[.iface 74 (.pointer (some ⟨b, 0, none⟩)), tyV ⟨2, nm, size, enc, flag, of, idx, mem⟩ At ct, .func (.func 28) #[] #[.pointer (some ⟨g, 0, none⟩)]] w (FillPost b l B ⟨2, nm, size, enc, flag, of, idx, mem⟩ w) := by
  refine calls_ends fun P HP => ?_
  have HA := hid hA
  have HB := hid hb
  clear hA hb
  go_enter Try.func29, Try.ntmps29
  go_wp2_with (go_at_call 28; refine (at_calls g a l B of _ (HA.out.below (box_below _ _)) hl ho0 ho1).mono ?_; rintro e w1 ⟨T, p, rfl, _hat, hb1⟩; have hb2 := blk_below hb1 (blk_below (box_below _ _) HB.out); have c0 := blk_cell hb2; have f0 := blk_free hb2; have HB2 := hid hb2; have HB1 := hid hb1; clear hb1 hb2)
  go_end0
  exact HP.out _ _ ⟨rfl, (grown_of_below (below_then (box_below _ _) HB1.out) _).trans (grown_setCell _ _ _), ⟨_, blk_setCell HB2.out _ _, by simp, by simp, by simp⟩⟩

set_option maxRecDepth 100000 in
set_option maxHeartbeats 4000000 in
theorem fill_8 (b g a : Nat) (l : List Ty) (B : Nat → Nat) (nm : ByteArray) (size enc flag of idx : Int) (mem : List Mb) (At : Option Addr) (ct : Nat) (w : World)
    (hb : w.heap[b]? = some (.cells #[.string nm, .nilIface, .slice none 0 0] 93 (0, 0)))
    (hA : Arena w g a l B) (hl : l.length ≤ 30) (ho0 : 0 ≤ of) (ho1 : of ≤ l.length) :
    Calls Try.prog 29 #[.iface 91 (.pointer (some ⟨b, 0, none⟩)), tyV ⟨8, nm, size, enc, flag, of, idx, mem⟩ At ct, .func (.func 28) #[] #[.pointer (some ⟨g, 0, none⟩)]] w (FillPost b l B ⟨8, nm, size, enc, flag, of, idx, mem⟩ w) := by
  refine calls_ends fun P HP => ?_
  have HA := hid hA
  have HB := hid hb
  clear hA hb
  go_enter Try.func29, Try.ntmps29
  go_wp2_with (go_at_call 28; refine (at_calls g a l B of _ (HA.out.below (box_below _ _)) hl ho0 ho1).mono ?_; rintro e w1 ⟨T, p, rfl, hat, hb1⟩; have hb2 := blk_below hb1 (blk_below (box_below _ _) HB.out); have c0 := blk_cell hb2; have f0 := blk_free hb2; have HB2 := hid hb2; have HB1 := hid hb1; clear hb1 hb2)
  go_end0
  exact HP.out _ _ ⟨rfl, (grown_of_below (below_then (box_below _ _) HB1.out) _).trans (grown_setCell _ _ _), ⟨_, blk_setCell HB2.out _ _, by simp, fun _ => ⟨T, p, rfl, hat⟩, by simp⟩⟩

set_option maxRecDepth 100000 in
set_option maxHeartbeats 4000000 in
theorem fill_9 (b g a : Nat) (l : List Ty) (B : Nat → Nat) (nm : ByteArray) (size enc flag of idx : Int) (mem : List Mb) (At : Option Addr) (ct : Nat) (w : World)
    (hb : w.heap[b]? = some (.cells #[.nilIface] 96 (0, 0)))
    (hA : Arena w g a l B) (hl : l.length ≤ 30) (ho0 : 0 ≤ of) (ho1 : of ≤ l.length) :
    Calls Try.prog 29 #[.iface 94 (.pointer (some ⟨b, 0, none⟩)), tyV ⟨9, nm, size, enc, flag, of, idx, mem⟩ At ct, .func (.func 28) #[] #[.pointer (some ⟨g, 0, none⟩)]] w (FillPost b l B ⟨9, nm, size, enc, flag, of, idx, mem⟩ w) := by
  refine calls_ends fun P HP => ?_
  have HA := hid hA
  have HB := hid hb
  clear hA hb
  go_enter Try.func29, Try.ntmps29
  go_wp2_with (go_at_call 28; refine (at_calls g a l B of _ (HA.out.below (box_below _ _)) hl ho0 ho1).mono ?_; rintro e w1 ⟨T, p, rfl, hat, hb1⟩; have hb2 := blk_below hb1 (blk_below (box_below _ _) HB.out); have c0 := blk_cell hb2; have f0 := blk_free hb2; have HB2 := hid hb2; have HB1 := hid hb1; clear hb1 hb2)
  go_end0
  exact HP.out _ _ ⟨rfl, (grown_of_below (below_then (box_below _ _) HB1.out) _).trans (grown_setCell _ _ _), ⟨_, blk_setCell HB2.out _ _, by simp, by simp, fun _ => ⟨T, p, rfl, hat⟩⟩⟩

set_option maxRecDepth 100000 in
set_option maxHeartbeats 4000000 in
theorem fill_10 (b g a : Nat) (l : List Ty) (B : Nat → Nat) (nm : ByteArray) (size enc flag of idx : Int) (mem : List Mb) (At : Option Addr) (ct : Nat) (w : World)
    (hb : w.heap[b]? = some (.cells #[.nilIface] 98 (0, 0)))
    (hA : Arena w g a l B) (hl : l.length ≤ 30) (ho0 : 0 ≤ of) (ho1 : of ≤ l.length) :
    Calls Try.prog 29 #[.iface 97 (.pointer (some ⟨b, 0, none⟩)), tyV ⟨10, nm, size, enc, flag, of, idx, mem⟩ At ct, .func (.func 28) #[] #[.pointer (some ⟨g, 0, none⟩)]] w (FillPost b l B ⟨10, nm, size, enc, flag, of, idx, mem⟩ w) := by
  refine calls_ends fun P HP => ?_
  have HA := hid hA
  have HB := hid hb
  clear hA hb
  go_enter Try.func29, Try.ntmps29
  go_wp2_with (go_at_call 28; refine (at_calls g a l B of _ (HA.out.below (box_below _ _)) hl ho0 ho1).mono ?_; rintro e w1 ⟨T, p, rfl, hat, hb1⟩; have hb2 := blk_below hb1 (blk_below (box_below _ _) HB.out); have c0 := blk_cell hb2; have f0 := blk_free hb2; have HB2 := hid hb2; have HB1 := hid hb1; clear hb1 hb2)
  go_end0
  exact HP.out _ _ ⟨rfl, (grown_of_below (below_then (box_below _ _) HB1.out) _).trans (grown_setCell _ _ _), ⟨_, blk_setCell HB2.out _ _, by simp, by simp, fun _ => ⟨T, p, rfl, hat⟩⟩⟩

set_option maxRecDepth 100000 in
set_option maxHeartbeats 4000000 in
theorem fill_11 (b g a : Nat) (l : List Ty) (B : Nat → Nat) (nm : ByteArray) (size enc flag of idx : Int) (mem : List Mb) (At : Option Addr) (ct : Nat) (w : World)
    (hb : w.heap[b]? = some (.cells #[.nilIface] 100 (0, 0)))
    (hA : Arena w g a l B) (hl : l.length ≤ 30) (ho0 : 0 ≤ of) (ho1 : of ≤ l.length) :
    Calls Try.prog 29 #[.iface 99 (.pointer (some ⟨b, 0, none⟩)), tyV ⟨11, nm, size, enc, flag, of, idx, mem⟩ At ct, .func (.func 28) #[] #[.pointer (some ⟨g, 0, none⟩)]] w (FillPost b l B ⟨11, nm, size, enc, flag, of, idx, mem⟩ w) := by
  refine calls_ends fun P HP => ?_
  have HA := hid hA
  have HB := hid hb
  clear hA hb
  go_enter Try.func29, Try.ntmps29
  go_wp2_with (go_at_call 28; refine (at_calls g a l B of _ (HA.out.below (box_below _ _)) hl ho0 ho1).mono ?_; rintro e w1 ⟨T, p, rfl, hat, hb1⟩; have hb2 := blk_below hb1 (blk_below (box_below _ _) HB.out); have c0 := blk_cell hb2; have f0 := blk_free hb2; have HB2 := hid hb2; have HB1 := hid hb1; clear hb1 hb2)
  go_end0
  exact HP.out _ _ ⟨rfl, (grown_of_below (below_then (box_below _ _) HB1.out) _).trans (grown_setCell _ _ _), ⟨_, blk_setCell HB2.out _ _, by simp, by simp, fun _ => ⟨T, p, rfl, hat⟩⟩⟩

set_option maxRecDepth 100000 in
set_option maxHeartbeats 4000000 in
theorem fill_12 (b g a : Nat) (l : List Ty) (B : Nat → Nat) (nm : ByteArray) (size enc flag of idx : Int) (mem : List Mb) (At : Option Addr) (ct : Nat) (w : World)
    (hb : w.heap[b]? = some (.cells #[.string nm, .nilIface, .int .i64 flag, .slice none 0 0, .slice none 0 0] 105 (0, 0)))
    (hA : Arena w g a l B) (hl : l.length ≤ 30) (ho0 : 0 ≤ of) (ho1 : of ≤ l.length) :
    Calls Try.prog 29 #[.iface 101 (.pointer (some ⟨b, 0, none⟩)), tyV ⟨12, nm, size, enc, flag, of, idx, mem⟩ At ct, .func (.func 28) #[] #[.pointer (some ⟨g, 0, none⟩)]] w (FillPost b l B ⟨12, nm, size, enc, flag, of, idx, mem⟩ w) := by
  refine calls_ends fun P HP => ?_
  have HA := hid hA
  have HB := hid hb
  clear hA hb
  go_enter Try.func29, Try.ntmps29
  go_wp2_with (go_at_call 28; refine (at_calls g a l B of _ (HA.out.below (box_below _ _)) hl ho0 ho1).mono ?_; rintro e w1 ⟨T, p, rfl, _hat, hb1⟩; have hb2 := blk_below hb1 (blk_below (box_below _ _) HB.out); have c0 := blk_cell hb2; have f0 := blk_free hb2; have HB2 := hid hb2; have HB1 := hid hb1; clear hb1 hb2)
  go_end0
  exact HP.out _ _ ⟨rfl, (grown_of_below (below_then (box_below _ _) HB1.out) _).trans (grown_setCell _ _ _), ⟨_, blk_setCell HB2.out _ _, by simp, by simp, by simp⟩⟩

set_option maxRecDepth 100000 in
set_option maxHeartbeats 4000000 in
theorem fill_14 (b g a : Nat) (l : List Ty) (B : Nat → Nat) (nm : ByteArray) (size enc flag of idx : Int) (mem : List Mb) (At : Option Addr) (ct : Nat) (w : World)
    (hb : w.heap[b]? = some (.cells #[.string nm, .nilIface, .int .i64 flag, .slice none 0 0] 113 (0, 0)))
    (hA : Arena w g a l B) (hl : l.length ≤ 30) (ho0 : 0 ≤ of) (ho1 : of ≤ l.length) :
    Calls Try.prog 29 #[.iface 110 (.pointer (some ⟨b, 0, none⟩)), tyV ⟨14, nm, size, enc, flag, of, idx, mem⟩ At ct, .func (.func 28) #[] #[.pointer (some ⟨g, 0, none⟩)]] w (FillPost b l B ⟨14, nm, size, enc, flag, of, idx, mem⟩ w) := by
  refine calls_ends fun P HP => ?_
  have HA := hid hA
  have HB := hid hb
  clear hA hb
  go_enter Try.func29, Try.ntmps29
  go_wp2_with (go_at_call 28; refine (at_calls g a l B of _ (HA.out.below (box_below _ _)) hl ho0 ho1).mono ?_; rintro e w1 ⟨T, p, rfl, _hat, hb1⟩; have hb2 := blk_below hb1 (blk_below (box_below _ _) HB.out); have c0 := blk_cell hb2; have f0 := blk_free hb2; have HB2 := hid hb2; have HB1 := hid hb1; clear hb1 hb2)
  go_end0
  exact HP.out _ _ ⟨rfl, (grown_of_below (below_then (box_below _ _) HB1.out) _).trans (grown_setCell _ _ _), ⟨_, blk_setCell HB2.out _ _, by simp, by simp, by simp⟩⟩

set_option maxRecDepth 100000 in
set_option maxHeartbeats 4000000 in
theorem fill_18 (b g a : Nat) (l : List Ty) (B : Nat → Nat) (nm : ByteArray) (size enc flag of idx : Int) (mem : List Mb) (At : Option Addr) (ct : Nat) (w : World)
    (hb : w.heap[b]? = some (.cells #[.nilIface, .string nm] 123 (0, 0)))
    (hA : Arena w g a l B) (hl : l.length ≤ 30) (ho0 : 0 ≤ of) (ho1 : of ≤ l.length) :
    Calls Try.prog 29 #[.iface 121 (.pointer (some ⟨b, 0, none⟩)), tyV ⟨18, nm, size, enc, flag, of, idx, mem⟩ At ct, .func (.func 28) #[] #[.pointer (some ⟨g, 0, none⟩)]] w (FillPost b l B ⟨18, nm, size, enc, flag, of, idx, mem⟩ w) := by
  refine calls_ends fun P HP => ?_
  have HA := hid hA
  have HB := hid hb
  clear hA hb
  go_enter Try.func29, Try.ntmps29
  go_wp2_with (go_at_call 28; refine (at_calls g a l B of _ (HA.out.below (box_below _ _)) hl ho0 ho1).mono ?_; rintro e w1 ⟨T, p, rfl, hat, hb1⟩; have hb2 := blk_below hb1 (blk_below (box_below _ _) HB.out); have c0 := blk_cell hb2; have f0 := blk_free hb2; have HB2 := hid hb2; have HB1 := hid hb1; clear hb1 hb2)
  go_end0
  exact HP.out _ _ ⟨rfl, (grown_of_below (below_then (box_below _ _) HB1.out) _).trans (grown_setCell _ _ _), ⟨_, blk_setCell HB2.out _ _, by simp, by simp, fun _ => ⟨T, p, rfl, hat⟩⟩⟩

end Go.Proofs.Ytoeilapjihbfhaa
