import Derived.Test.YbulkejkwCWalk
import Derived.Stop.Walk2
namespace Go.Proofs.Ybulkejkw.lawS6782CWhole
open Go.RowKit
set_option linter.unusedVariables false

set_option maxRecDepth 100000 in
theorem gs_new (w : World) : GS w.heap.size 0 none none (w.alloc (.cells #[.int .u64 0, .int .u8 0, .int .u8 0, .int .u8 0, .int .u8 0, .int .u8 0, .int .u8 0, .int .u8 0, .int .u8 0, .int .u8 0, .int .u8 0, .int .u8 0, .int .u8 0, .int .u8 0, .int .u8 0, .int .u8 0, .int .u8 0, .int .u8 0, .int .u8 0, .int .u8 0, .int .u8 0, .int .u8 0, .int .u8 0, .int .u8 0, .int .u8 0, .int .u8 0, .int .u8 0, .int .u8 0, .int .u8 0, .int .u8 0, .int .u8 0, .int .u8 0, .int .u8 0, .int .u8 0, .int .u8 0, .int .u8 0, .int .u8 0, .int .u8 0, .int .u8 0, .int .u8 0, .int .u8 0, .int .u8 0, .int .u8 0, .int .u8 0, .int .u8 0, .int .u8 0, .int .u8 0, .int .u8 0, .int .u8 0, .int .u8 0, .int .u8 0, .int .u8 0, .int .u8 0, .int .u8 0, .int .u8 0, .int .u8 0, .int .u8 0, .pointer none, .pointer none] 41)) :=
  ⟨World.shape?_alloc_at _ _ _ rfl, by rw [World.cell?_alloc_mark]; rfl, by rw [World.cell?_alloc_mark]; rfl, by rw [World.cell?_alloc_mark]; rfl, fun i => World.frozen?_alloc_at _ _ _ _ rfl⟩

theorem GS.alloc {B : Nat} {st : Int} {s an : Option Addr} {w : World} (h : GS B st s an w) (hB : B < w.heap.size) (o : Obj) : GS B st s an (w.alloc o) :=
  ⟨by rw [World.shape?_alloc_past _ _ hB]; exact h.sh, by rw [World.cell?_alloc_past _ _ _ hB]; exact h.c0, by rw [World.cell?_alloc_past _ _ _ hB]; exact h.c57, by rw [World.cell?_alloc_past _ _ _ hB]; exact h.c58, fun i => by rw [World.frozen?_alloc_past _ _ _ hB]; exact h.f i⟩
theorem GS.lt {B : Nat} {st : Int} {s an : Option Addr} {w : World} (h : GS B st s an w) : B < w.heap.size := World.block_lt_of_cell? _ _ h.c0

set_option maxHeartbeats 800000 in
set_option maxRecDepth 100000 in
theorem walk_ff (a0 : Int) (w : World) :
    Calls Yba.prog 5 #[.int .u64 a0, .bool false, .bool false] w fun e w' => e = .returned (.bool true) ∧ Grown w w' := by
  have hn1 := neq_group
  have hn2 := neq_annex
  have hg0 := gs_new w
  have hgr0 : Grown w (w.alloc (.cells #[.int .u64 0, .int .u8 0, .int .u8 0, .int .u8 0, .int .u8 0, .int .u8 0, .int .u8 0, .int .u8 0, .int .u8 0, .int .u8 0, .int .u8 0, .int .u8 0, .int .u8 0, .int .u8 0, .int .u8 0, .int .u8 0, .int .u8 0, .int .u8 0, .int .u8 0, .int .u8 0, .int .u8 0, .int .u8 0, .int .u8 0, .int .u8 0, .int .u8 0, .int .u8 0, .int .u8 0, .int .u8 0, .int .u8 0, .int .u8 0, .int .u8 0, .int .u8 0, .int .u8 0, .int .u8 0, .int .u8 0, .int .u8 0, .int .u8 0, .int .u8 0, .int .u8 0, .int .u8 0, .int .u8 0, .int .u8 0, .int .u8 0, .int .u8 0, .int .u8 0, .int .u8 0, .int .u8 0, .int .u8 0, .int .u8 0, .int .u8 0, .int .u8 0, .int .u8 0, .int .u8 0, .int .u8 0, .int .u8 0, .int .u8 0, .int .u8 0, .pointer none, .pointer none] 41)) := (Grown.refl w).alloc _ _
  have HS := state_store w.heap.size 0 a0 none none _ hg0
  go_enter Yba.func5, Yba.ntmps5
  go_wp2_with fail
  refine HS.mono ?_
  rintro e w1 ⟨rfl, hw1⟩
  have hg1 : GS w.heap.size a0 none none w1 := by rw [hw1]; exact hg0.set0 a0
  have hgr1 : Grown w w1 := by rw [hw1]; exact hgr0.setCell (a := ⟨w.heap.size, 0, none⟩) (Nat.le_refl _) _
  clear hw1 hg0 hgr0 HS
  have hB1 := hg1.lt
  have HU := use_fresh w.heap.size a0 none _ hg1
  go_wp2_with fail
  refine HU.mono ?_
  rintro e w5 ⟨rfl, hw5⟩
  have hg5 : GS w.heap.size a0 (some ⟨w.heap.size, 0, none⟩) none w5 := by rw [hw5]; exact hg1.set57 _
  have hgr5 : Grown w w5 := by rw [hw5]; exact hgr1.setCell (a := ⟨w.heap.size, 57, none⟩) (Nat.le_refl _) _
  clear hw5 HU hg1 hgr1
  have h1 := self_load w.heap.size a0 none w5 hg5
  have h2 := state_load w.heap.size a0 _ _ w5 hg5
  have h3 := annex_load_nil w.heap.size a0 _ w5 hg5
  have H1 : Hid (Calls Yba.prog 25 #[.pointer (some ⟨w.heap.size, 57, none⟩)] w5 fun e w' => e = .returned (.pointer (some ⟨w.heap.size, 0, none⟩)) ∧ w' = w5) := h1
  have H2 : Hid (Calls Yba.prog 16 #[.pointer (some ⟨w.heap.size, 0, none⟩)] w5 fun e w' => e = .returned (.int .u64 a0) ∧ w' = w5) := h2
  have H3 : Hid (Calls Yba.prog 26 #[.pointer (some ⟨w.heap.size, 58, none⟩)] w5 fun e w' => e = .returned (.pointer none) ∧ w' = w5) := h3
  clear h1 h2 h3 hg5
  go_wp2_with (first | (go_at_call 25; refine H1.out.mono ?_; rintro e w6 ⟨rfl, hw6⟩; have hw7 := hw6.symm; clear hw6; subst hw7) | (go_at_call 16; refine H2.out.mono ?_; rintro e w6 ⟨rfl, hw6⟩; have hw7 := hw6.symm; clear hw6; subst hw7) | (go_at_call 26; refine H3.out.mono ?_; rintro e w6 ⟨rfl, hw6⟩; have hw7 := hw6.symm; clear hw6; subst hw7))
  go_ret
  exact ⟨rfl, hgr5⟩

set_option maxHeartbeats 800000 in
set_option maxRecDepth 100000 in
theorem walk_ft (a0 : Int) (w : World) :
    Calls Yba.prog 5 #[.int .u64 a0, .bool false, .bool true] w fun e w' => e = .returned (.bool true) ∧ Grown w w' := by
  have hn1 := neq_group
  have hn2 := neq_annex
  have hg0 := gs_new w
  have hgr0 : Grown w (w.alloc (.cells #[.int .u64 0, .int .u8 0, .int .u8 0, .int .u8 0, .int .u8 0, .int .u8 0, .int .u8 0, .int .u8 0, .int .u8 0, .int .u8 0, .int .u8 0, .int .u8 0, .int .u8 0, .int .u8 0, .int .u8 0, .int .u8 0, .int .u8 0, .int .u8 0, .int .u8 0, .int .u8 0, .int .u8 0, .int .u8 0, .int .u8 0, .int .u8 0, .int .u8 0, .int .u8 0, .int .u8 0, .int .u8 0, .int .u8 0, .int .u8 0, .int .u8 0, .int .u8 0, .int .u8 0, .int .u8 0, .int .u8 0, .int .u8 0, .int .u8 0, .int .u8 0, .int .u8 0, .int .u8 0, .int .u8 0, .int .u8 0, .int .u8 0, .int .u8 0, .int .u8 0, .int .u8 0, .int .u8 0, .int .u8 0, .int .u8 0, .int .u8 0, .int .u8 0, .int .u8 0, .int .u8 0, .int .u8 0, .int .u8 0, .int .u8 0, .int .u8 0, .pointer none, .pointer none] 41)) := (Grown.refl w).alloc _ _
  have HS := state_store w.heap.size 0 a0 none none _ hg0
  go_enter Yba.func5, Yba.ntmps5
  go_wp2_with fail
  refine HS.mono ?_
  rintro e w1 ⟨rfl, hw1⟩
  have hg1 : GS w.heap.size a0 none none w1 := by rw [hw1]; exact hg0.set0 a0
  have hgr1 : Grown w w1 := by rw [hw1]; exact hgr0.setCell (a := ⟨w.heap.size, 0, none⟩) (Nat.le_refl _) _
  clear hw1 hg0 hgr0 HS
  have hB1 := hg1.lt
  have hg2 := hg1.alloc hB1 (.cells #[.int .i32 0, .int .u32 0, .chan none, .pointer none, .pointer none, .int .i64 0] 78)
  have hgr2 : Grown w (w1.alloc (.cells #[.int .i32 0, .int .u32 0, .chan none, .pointer none, .pointer none, .int .i64 0] 78)) := hgr1.alloc _ _
  have hsa : (w1.alloc (.cells #[.int .i32 0, .int .u32 0, .chan none, .pointer none, .pointer none, .int .i64 0] 78)).shape? w1.heap.size = some (78, 6) := World.shape?_alloc_at _ _ _ rfl
  have HA := annex_store w.heap.size w1.heap.size a0 none none _ hg2 hsa
  have Hgr2 : Hid (Grown w (w1.alloc (.cells #[.int .i32 0, .int .u32 0, .chan none, .pointer none, .pointer none, .int .i64 0] 78))) := hgr2
  have Hsa : Hid ((w1.alloc (.cells #[.int .i32 0, .int .u32 0, .chan none, .pointer none, .pointer none, .int .i64 0] 78)).shape? w1.heap.size = some (78, 6)) := hsa
  clear hgr2 hsa
  go_wp2_with fail
  refine HA.mono ?_
  rintro e w3 ⟨rfl, hw3⟩
  have hg3 : GS w.heap.size a0 none (some ⟨w1.heap.size, 0, none⟩) w3 := by rw [hw3]; exact hg2.set58 _
  have hgr3 : Grown w w3 := by rw [hw3]; exact Hgr2.out.setCell (a := ⟨w.heap.size, 58, none⟩) (Nat.le_refl _) _
  have hs3 : Hid (w3.shape? w1.heap.size = some (78, 6)) := by show _ = _; rw [hw3, shape_setCell]; exact Hsa.out
  clear hw3 HA hg2 Hgr2 Hsa hg1 hgr1
  have HU := use_fresh w.heap.size a0 (some ⟨w1.heap.size, 0, none⟩) _ hg3
  go_wp2_with fail
  refine HU.mono ?_
  rintro e w5 ⟨rfl, hw5⟩
  have hg5 : GS w.heap.size a0 (some ⟨w.heap.size, 0, none⟩) (some ⟨w1.heap.size, 0, none⟩) w5 := by rw [hw5]; exact hg3.set57 _
  have hgr5 : Grown w w5 := by rw [hw5]; exact hgr3.setCell (a := ⟨w.heap.size, 57, none⟩) (Nat.le_refl _) _
  have hs5 : Hid (w5.shape? w1.heap.size = some (78, 6)) := by show _ = _; rw [hw5, shape_setCell]; exact hs3.out
  clear hw5 HU hg3 hgr3
  have h1 := self_load w.heap.size a0 (some ⟨w1.heap.size, 0, none⟩) w5 hg5
  have h2 := state_load w.heap.size a0 _ _ w5 hg5
  have h3 := annex_load w.heap.size w1.heap.size a0 _ w5 hg5 hs5.out
  have H1 : Hid (Calls Yba.prog 25 #[.pointer (some ⟨w.heap.size, 57, none⟩)] w5 fun e w' => e = .returned (.pointer (some ⟨w.heap.size, 0, none⟩)) ∧ w' = w5) := h1
  have H2 : Hid (Calls Yba.prog 16 #[.pointer (some ⟨w.heap.size, 0, none⟩)] w5 fun e w' => e = .returned (.int .u64 a0) ∧ w' = w5) := h2
  have H3 : Hid (Calls Yba.prog 26 #[.pointer (some ⟨w.heap.size, 58, none⟩)] w5 fun e w' => e = .returned (.pointer (some ⟨w1.heap.size, 0, none⟩)) ∧ w' = w5) := h3
  clear h1 h2 h3 hg5
  go_wp2_with (first | (go_at_call 25; refine H1.out.mono ?_; rintro e w6 ⟨rfl, hw6⟩; have hw7 := hw6.symm; clear hw6; subst hw7) | (go_at_call 16; refine H2.out.mono ?_; rintro e w6 ⟨rfl, hw6⟩; have hw7 := hw6.symm; clear hw6; subst hw7) | (go_at_call 26; refine H3.out.mono ?_; rintro e w6 ⟨rfl, hw6⟩; have hw7 := hw6.symm; clear hw6; subst hw7))
  go_ret
  exact ⟨rfl, hgr5⟩

set_option maxHeartbeats 800000 in
set_option maxRecDepth 100000 in
theorem walk_tf (a0 : Int) (w : World) :
    Calls Yba.prog 5 #[.int .u64 a0, .bool true, .bool false] w fun e w' => e = .returned (.bool true) ∧ Grown w w' := by
  have hn1 := neq_group
  have hn2 := neq_annex
  have hg0 := gs_new w
  have hgr0 : Grown w (w.alloc (.cells #[.int .u64 0, .int .u8 0, .int .u8 0, .int .u8 0, .int .u8 0, .int .u8 0, .int .u8 0, .int .u8 0, .int .u8 0, .int .u8 0, .int .u8 0, .int .u8 0, .int .u8 0, .int .u8 0, .int .u8 0, .int .u8 0, .int .u8 0, .int .u8 0, .int .u8 0, .int .u8 0, .int .u8 0, .int .u8 0, .int .u8 0, .int .u8 0, .int .u8 0, .int .u8 0, .int .u8 0, .int .u8 0, .int .u8 0, .int .u8 0, .int .u8 0, .int .u8 0, .int .u8 0, .int .u8 0, .int .u8 0, .int .u8 0, .int .u8 0, .int .u8 0, .int .u8 0, .int .u8 0, .int .u8 0, .int .u8 0, .int .u8 0, .int .u8 0, .int .u8 0, .int .u8 0, .int .u8 0, .int .u8 0, .int .u8 0, .int .u8 0, .int .u8 0, .int .u8 0, .int .u8 0, .int .u8 0, .int .u8 0, .int .u8 0, .int .u8 0, .pointer none, .pointer none] 41)) := (Grown.refl w).alloc _ _
  have HS := state_store w.heap.size 0 a0 none none _ hg0
  go_enter Yba.func5, Yba.ntmps5
  go_wp2_with fail
  refine HS.mono ?_
  rintro e w1 ⟨rfl, hw1⟩
  have hg1 : GS w.heap.size a0 none none w1 := by rw [hw1]; exact hg0.set0 a0
  have hgr1 : Grown w w1 := by rw [hw1]; exact hgr0.setCell (a := ⟨w.heap.size, 0, none⟩) (Nat.le_refl _) _
  clear hw1 hg0 hgr0 HS
  have hB1 := hg1.lt
  have HP := self_store w.heap.size a0 none none _ hg1
  go_wp2_with fail
  refine HP.mono ?_
  rintro e w4 ⟨rfl, hw4⟩
  have hg4 : GS w.heap.size a0 (some ⟨w.heap.size, 0, none⟩) none w4 := by rw [hw4]; exact hg1.set57 _
  have hgr4 : Grown w w4 := by rw [hw4]; exact hgr1.setCell (a := ⟨w.heap.size, 57, none⟩) (Nat.le_refl _) _
  clear hw4 HP hg1 hgr1
  have HU := use_again w.heap.size a0 none _ hg4
  go_wp2_with fail
  refine HU.mono ?_
  rintro e w5 ⟨rfl, hw5⟩
  have hg5 : GS w.heap.size a0 (some ⟨w.heap.size, 0, none⟩) none w5 := by rw [hw5]; exact hg4
  have hgr5 : Grown w w5 := by rw [hw5]; exact hgr4
  clear hw5 HU hg4 hgr4
  have h1 := self_load w.heap.size a0 none w5 hg5
  have h2 := state_load w.heap.size a0 _ _ w5 hg5
  have h3 := annex_load_nil w.heap.size a0 _ w5 hg5
  have H1 : Hid (Calls Yba.prog 25 #[.pointer (some ⟨w.heap.size, 57, none⟩)] w5 fun e w' => e = .returned (.pointer (some ⟨w.heap.size, 0, none⟩)) ∧ w' = w5) := h1
  have H2 : Hid (Calls Yba.prog 16 #[.pointer (some ⟨w.heap.size, 0, none⟩)] w5 fun e w' => e = .returned (.int .u64 a0) ∧ w' = w5) := h2
  have H3 : Hid (Calls Yba.prog 26 #[.pointer (some ⟨w.heap.size, 58, none⟩)] w5 fun e w' => e = .returned (.pointer none) ∧ w' = w5) := h3
  clear h1 h2 h3 hg5
  go_wp2_with (first | (go_at_call 25; refine H1.out.mono ?_; rintro e w6 ⟨rfl, hw6⟩; have hw7 := hw6.symm; clear hw6; subst hw7) | (go_at_call 16; refine H2.out.mono ?_; rintro e w6 ⟨rfl, hw6⟩; have hw7 := hw6.symm; clear hw6; subst hw7) | (go_at_call 26; refine H3.out.mono ?_; rintro e w6 ⟨rfl, hw6⟩; have hw7 := hw6.symm; clear hw6; subst hw7))
  go_ret
  exact ⟨rfl, hgr5⟩

set_option maxHeartbeats 800000 in
set_option maxRecDepth 100000 in
theorem walk_tt (a0 : Int) (w : World) :
    Calls Yba.prog 5 #[.int .u64 a0, .bool true, .bool true] w fun e w' => e = .returned (.bool true) ∧ Grown w w' := by
  have hn1 := neq_group
  have hn2 := neq_annex
  have hg0 := gs_new w
  have hgr0 : Grown w (w.alloc (.cells #[.int .u64 0, .int .u8 0, .int .u8 0, .int .u8 0, .int .u8 0, .int .u8 0, .int .u8 0, .int .u8 0, .int .u8 0, .int .u8 0, .int .u8 0, .int .u8 0, .int .u8 0, .int .u8 0, .int .u8 0, .int .u8 0, .int .u8 0, .int .u8 0, .int .u8 0, .int .u8 0, .int .u8 0, .int .u8 0, .int .u8 0, .int .u8 0, .int .u8 0, .int .u8 0, .int .u8 0, .int .u8 0, .int .u8 0, .int .u8 0, .int .u8 0, .int .u8 0, .int .u8 0, .int .u8 0, .int .u8 0, .int .u8 0, .int .u8 0, .int .u8 0, .int .u8 0, .int .u8 0, .int .u8 0, .int .u8 0, .int .u8 0, .int .u8 0, .int .u8 0, .int .u8 0, .int .u8 0, .int .u8 0, .int .u8 0, .int .u8 0, .int .u8 0, .int .u8 0, .int .u8 0, .int .u8 0, .int .u8 0, .int .u8 0, .int .u8 0, .pointer none, .pointer none] 41)) := (Grown.refl w).alloc _ _
  have HS := state_store w.heap.size 0 a0 none none _ hg0
  go_enter Yba.func5, Yba.ntmps5
  go_wp2_with fail
  refine HS.mono ?_
  rintro e w1 ⟨rfl, hw1⟩
  have hg1 : GS w.heap.size a0 none none w1 := by rw [hw1]; exact hg0.set0 a0
  have hgr1 : Grown w w1 := by rw [hw1]; exact hgr0.setCell (a := ⟨w.heap.size, 0, none⟩) (Nat.le_refl _) _
  clear hw1 hg0 hgr0 HS
  have hB1 := hg1.lt
  have hg2 := hg1.alloc hB1 (.cells #[.int .i32 0, .int .u32 0, .chan none, .pointer none, .pointer none, .int .i64 0] 78)
  have hgr2 : Grown w (w1.alloc (.cells #[.int .i32 0, .int .u32 0, .chan none, .pointer none, .pointer none, .int .i64 0] 78)) := hgr1.alloc _ _
  have hsa : (w1.alloc (.cells #[.int .i32 0, .int .u32 0, .chan none, .pointer none, .pointer none, .int .i64 0] 78)).shape? w1.heap.size = some (78, 6) := World.shape?_alloc_at _ _ _ rfl
  have HA := annex_store w.heap.size w1.heap.size a0 none none _ hg2 hsa
  have Hgr2 : Hid (Grown w (w1.alloc (.cells #[.int .i32 0, .int .u32 0, .chan none, .pointer none, .pointer none, .int .i64 0] 78))) := hgr2
  have Hsa : Hid ((w1.alloc (.cells #[.int .i32 0, .int .u32 0, .chan none, .pointer none, .pointer none, .int .i64 0] 78)).shape? w1.heap.size = some (78, 6)) := hsa
  clear hgr2 hsa
  go_wp2_with fail
  refine HA.mono ?_
  rintro e w3 ⟨rfl, hw3⟩
  have hg3 : GS w.heap.size a0 none (some ⟨w1.heap.size, 0, none⟩) w3 := by rw [hw3]; exact hg2.set58 _
  have hgr3 : Grown w w3 := by rw [hw3]; exact Hgr2.out.setCell (a := ⟨w.heap.size, 58, none⟩) (Nat.le_refl _) _
  have hs3 : Hid (w3.shape? w1.heap.size = some (78, 6)) := by show _ = _; rw [hw3, shape_setCell]; exact Hsa.out
  clear hw3 HA hg2 Hgr2 Hsa hg1 hgr1
  have HP := self_store w.heap.size a0 none (some ⟨w1.heap.size, 0, none⟩) _ hg3
  go_wp2_with fail
  refine HP.mono ?_
  rintro e w4 ⟨rfl, hw4⟩
  have hg4 : GS w.heap.size a0 (some ⟨w.heap.size, 0, none⟩) (some ⟨w1.heap.size, 0, none⟩) w4 := by rw [hw4]; exact hg3.set57 _
  have hgr4 : Grown w w4 := by rw [hw4]; exact hgr3.setCell (a := ⟨w.heap.size, 57, none⟩) (Nat.le_refl _) _
  have hs4 : Hid (w4.shape? w1.heap.size = some (78, 6)) := by show _ = _; rw [hw4, shape_setCell]; exact hs3.out
  clear hw4 HP hg3 hgr3
  have HU := use_again w.heap.size a0 (some ⟨w1.heap.size, 0, none⟩) _ hg4
  go_wp2_with fail
  refine HU.mono ?_
  rintro e w5 ⟨rfl, hw5⟩
  have hg5 : GS w.heap.size a0 (some ⟨w.heap.size, 0, none⟩) (some ⟨w1.heap.size, 0, none⟩) w5 := by rw [hw5]; exact hg4
  have hgr5 : Grown w w5 := by rw [hw5]; exact hgr4
  have hs5 : Hid (w5.shape? w1.heap.size = some (78, 6)) := by show _ = _; rw [hw5]; exact hs4.out
  clear hw5 HU hg4 hgr4
  have h1 := self_load w.heap.size a0 (some ⟨w1.heap.size, 0, none⟩) w5 hg5
  have h2 := state_load w.heap.size a0 _ _ w5 hg5
  have h3 := annex_load w.heap.size w1.heap.size a0 _ w5 hg5 hs5.out
  have H1 : Hid (Calls Yba.prog 25 #[.pointer (some ⟨w.heap.size, 57, none⟩)] w5 fun e w' => e = .returned (.pointer (some ⟨w.heap.size, 0, none⟩)) ∧ w' = w5) := h1
  have H2 : Hid (Calls Yba.prog 16 #[.pointer (some ⟨w.heap.size, 0, none⟩)] w5 fun e w' => e = .returned (.int .u64 a0) ∧ w' = w5) := h2
  have H3 : Hid (Calls Yba.prog 26 #[.pointer (some ⟨w.heap.size, 58, none⟩)] w5 fun e w' => e = .returned (.pointer (some ⟨w1.heap.size, 0, none⟩)) ∧ w' = w5) := h3
  clear h1 h2 h3 hg5
  go_wp2_with (first | (go_at_call 25; refine H1.out.mono ?_; rintro e w6 ⟨rfl, hw6⟩; have hw7 := hw6.symm; clear hw6; subst hw7) | (go_at_call 16; refine H2.out.mono ?_; rintro e w6 ⟨rfl, hw6⟩; have hw7 := hw6.symm; clear hw6; subst hw7) | (go_at_call 26; refine H3.out.mono ?_; rintro e w6 ⟨rfl, hw6⟩; have hw7 := hw6.symm; clear hw6; subst hw7))
  go_ret
  exact ⟨rfl, hgr5⟩

end Go.Proofs.Ybulkejkw.lawS6782CWhole
