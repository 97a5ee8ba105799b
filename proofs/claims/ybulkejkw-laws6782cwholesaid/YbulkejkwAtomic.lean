import Derived.Test.YbulkejkwRows
import Derived.WalkKit
import Derived.WalkSpells
import Derived.WalkLawsBesides
import Derived.Laws.Pointers
import Derived.Lib.Builder
namespace Go.Proofs.Ybulkejkw.lawS6782CWhole
open Go.RowKit
set_option linter.unusedVariables false

section
variable {P : Program} {f : FuncId} {fn : Func}
/-- sync/atomic.LoadPointer: what the cell holds. -/
theorem run_call_loadPtr (hf : P.funcs[f]? = some fn) (hname : (fn.name == "runtime.NumGoroutine") = false) (hb : fn.body.isNone = true) (hn : Extern.findNext fn = none)
    (he : Extern.find fn = some (Extern.Atomic.loadT .ptr)) {a : Addr} {p : Option Addr} {w : World} (hc : w.cell? a = some (.pointer p)) :
    (callFunc f #[.pointer (some a)]).run P w = .ok (.value (.pointer p)) w := by
  rw [run_callFunc_extern hf hname hb hn he]
  change (Sem.run P (do Extern.Atomic.read .ptr (← asAddr (.pointer (some a)))) w).andThen _ = _
  simp [Extern.Atomic.read, asAddr, hc, Result.andThen]

/-- sync/atomic.StorePointer: the pointer is stored. -/
theorem run_call_storePtr (hf : P.funcs[f]? = some fn) (hname : (fn.name == "runtime.NumGoroutine") = false) (hb : fn.body.isNone = true) (hn : Extern.findNext fn = none)
    (he : Extern.find fn = some Extern.Atomic.storeT) {a : Addr} {y : Option Addr} {u : Value} {w : World} (hc : w.cell? a = some u) (hz : w.frozen? a = false) :
    (callFunc f #[.pointer (some a), .pointer y]).run P w = .ok (.value (.tuple #[])) (w.setCell a (.pointer y)) := by
  rw [run_callFunc_extern hf hname hb hn he]
  change (Sem.run P (do
    store (← asAddr (.pointer (some a))) (.pointer y) .atomic
    pure Extern.Atomic.none_) w).andThen _ = _
  simp [asAddr, hc, hz, run_store P w a (.pointer y) .atomic rfl, Result.andThen, Extern.Atomic.none_]

/-- sync/atomic.CompareAndSwapPointer(addr, nil, new) where the cell holds nil: stored; true. -/
theorem run_call_casPtr_hit (hf : P.funcs[f]? = some fn) (hname : (fn.name == "runtime.NumGoroutine") = false) (hb : fn.body.isNone = true) (hn : Extern.findNext fn = none)
    (he : Extern.find fn = some (Extern.Atomic.casT .ptr)) {a : Addr} {y : Option Addr} {w : World} (hc : w.cell? a = some (.pointer none)) (hz : w.frozen? a = false) :
    (callFunc f #[.pointer (some a), .pointer none, .pointer y]).run P w = .ok (.value (.bool true)) (w.setCell a (.pointer y)) := by
  rw [run_callFunc_extern hf hname hb hn he]
  change (Sem.run P (do
    let a' ← asAddr (.pointer (some a))
    if ← Extern.Atomic.touchesFrozen a' then unsupported (.unsafePointer "a write to bytes that a string shares")
    let eq ← match Extern.Atomic.T.ptr, ← Extern.Atomic.read .ptr a', Value.pointer none with
      | _, .int _ x, .int _ y => pure (x == y)
      | .ptr, .pointer x, .pointer y => samePointer x y
      | .int _, .pointer (some _), .int _ 0 | .int _, .int _ 0, .pointer (some _) => pure false
      | .int _, .pointer (some _), _ | .int _, _, .pointer (some _) => unsupported .addressObserved
      | _, _, _ => stuck ("atomic.CompareAndSwap" ++ String.singleton (Char.ofNat 58) ++ " old is no T")
    if eq then store a' (.pointer y) .atomic
    pure (Value.bool eq)) w).andThen _ = _
  simp [Extern.Atomic.touchesFrozen, Extern.Atomic.read, asAddr, viewAt, samePointer, World.shape?_isSome_of_cell? hc, hc, hz, run_store P w a (.pointer y) .atomic rfl, Result.andThen]

/-- .. where the cell holds an address: nothing is stored; false. -/
theorem run_call_casPtr_miss (hf : P.funcs[f]? = some fn) (hname : (fn.name == "runtime.NumGoroutine") = false) (hb : fn.body.isNone = true) (hn : Extern.findNext fn = none)
    (he : Extern.find fn = some (Extern.Atomic.casT .ptr)) {a b : Addr} {y : Option Addr} {w : World} (hc : w.cell? a = some (.pointer (some b))) (hz : w.frozen? a = false) :
    (callFunc f #[.pointer (some a), .pointer none, .pointer y]).run P w = .ok (.value (.bool false)) w := by
  rw [run_callFunc_extern hf hname hb hn he]
  change (Sem.run P (do
    let a' ← asAddr (.pointer (some a))
    if ← Extern.Atomic.touchesFrozen a' then unsupported (.unsafePointer "a write to bytes that a string shares")
    let eq ← match Extern.Atomic.T.ptr, ← Extern.Atomic.read .ptr a', Value.pointer none with
      | _, .int _ x, .int _ y => pure (x == y)
      | .ptr, .pointer x, .pointer y => samePointer x y
      | .int _, .pointer (some _), .int _ 0 | .int _, .int _ 0, .pointer (some _) => pure false
      | .int _, .pointer (some _), _ | .int _, _, .pointer (some _) => unsupported .addressObserved
      | _, _, _ => stuck ("atomic.CompareAndSwap" ++ String.singleton (Char.ofNat 58) ++ " old is no T")
    if eq then store a' (.pointer y) .atomic
    pure (Value.bool eq)) w).andThen _ = _
  simp [Extern.Atomic.touchesFrozen, Extern.Atomic.read, asAddr, viewAt, samePointer, World.shape?_isSome_of_cell? hc, hc, hz, Result.andThen]
end

theorem store64 {a : Addr} {y : Int} {u : Value} {w : World} (hc : w.cell? a = some u) (hz : w.frozen? a = false) :
    (callFunc 40 #[.pointer (some a), .int .u64 y]).run Yba.prog w = .ok (.value (.tuple #[])) (w.setCell a (.int .u64 y)) :=
  run_call_store Yba.func40 (by kernel_rfl) (by kernel_rfl) (by kernel_rfl) (by kernel_rfl) hc hz
theorem load64 {a : Addr} {x : Int} {w : World} (hc : w.cell? a = some (.int .u64 x)) :
    (callFunc 39 #[.pointer (some a)]).run Yba.prog w = .ok (.value (.int .u64 x)) w :=
  run_call_load Yba.func39 (by kernel_rfl) (by kernel_rfl) (by kernel_rfl) .u64 (by kernel_rfl) hc
theorem storeP {a : Addr} {y : Option Addr} {u : Value} {w : World} (hc : w.cell? a = some u) (hz : w.frozen? a = false) :
    (callFunc 41 #[.pointer (some a), .pointer y]).run Yba.prog w = .ok (.value (.tuple #[])) (w.setCell a (.pointer y)) :=
  run_call_storePtr Yba.func41 (by kernel_rfl) (by kernel_rfl) (by kernel_rfl) (by kernel_rfl) hc hz
theorem loadP {a : Addr} {p : Option Addr} {w : World} (hc : w.cell? a = some (.pointer p)) :
    (callFunc 43 #[.pointer (some a)]).run Yba.prog w = .ok (.value (.pointer p)) w :=
  run_call_loadPtr Yba.func43 (by kernel_rfl) (by kernel_rfl) (by kernel_rfl) (by kernel_rfl) hc

/-! The Group in memory: block B, 59 cells: the state at 0, self at 57, annex at 58. -/
structure GS (B : Nat) (st : Int) (slf ann : Option Addr) (w : World) : Prop where
  sh : w.shape? B = some (41, 59)
  c0 : w.cell? ⟨B, 0, none⟩ = some (.int .u64 st)
  c57 : w.cell? ⟨B, 57, none⟩ = some (.pointer slf)
  c58 : w.cell? ⟨B, 58, none⟩ = some (.pointer ann)
  f : ∀ i, w.frozen? ⟨B, i, none⟩ = false

theorem shape_setCell (w : World) (a : Addr) (v : Value) (b : Nat) : (w.setCell a v).shape? b = w.shape? b := by
  unfold World.shape? World.setCell
  simp only [Array.getElem?_modify]
  by_cases hb : a.block = b
  · rw [if_pos hb]
    cases w.heap[b]? with
    | none => rfl
    | some o =>
      cases o with
      | cells c e fr => simp only [Option.map_some]; split <;> simp
      | _ => rfl
  · rw [if_neg hb]

theorem GS.set0 {B : Nat} {st : Int} {s an : Option Addr} {w : World} (h : GS B st s an w) (y : Int) : GS B y s an (w.setCell ⟨B, 0, none⟩ (.int .u64 y)) :=
  ⟨by rw [shape_setCell]; exact h.sh, World.cell?_setCell_same _ _ _ h.c0, by rw [World.cell?_setCell_other _ _ _ _ (by simp)]; exact h.c57, by rw [World.cell?_setCell_other _ _ _ _ (by simp)]; exact h.c58, fun i => by rw [World.frozen?_setCell]; exact h.f i⟩
theorem GS.set57 {B : Nat} {st : Int} {s an : Option Addr} {w : World} (h : GS B st s an w) (y : Option Addr) : GS B st y an (w.setCell ⟨B, 57, none⟩ (.pointer y)) :=
  ⟨by rw [shape_setCell]; exact h.sh, by rw [World.cell?_setCell_other _ _ _ _ (by simp)]; exact h.c0, World.cell?_setCell_same _ _ _ h.c57, by rw [World.cell?_setCell_other _ _ _ _ (by simp)]; exact h.c58, fun i => by rw [World.frozen?_setCell]; exact h.f i⟩
theorem GS.set58 {B : Nat} {st : Int} {s an : Option Addr} {w : World} (h : GS B st s an w) (y : Option Addr) : GS B st s y (w.setCell ⟨B, 58, none⟩ (.pointer y)) :=
  ⟨by rw [shape_setCell]; exact h.sh, by rw [World.cell?_setCell_other _ _ _ _ (by simp)]; exact h.c0, by rw [World.cell?_setCell_other _ _ _ _ (by simp)]; exact h.c57, World.cell?_setCell_same _ _ _ h.c58, fun i => by rw [World.frozen?_setCell]; exact h.f i⟩

/-! The methods of the atomic types. -/
theorem state_store (B : Nat) (st y : Int) (s an : Option Addr) (w : World) (h : GS B st s an w) :
    Calls Yba.prog 21 #[.pointer (some ⟨B, 0, none⟩), .int .u64 y] w fun e w' => e = .returned (.tuple #[]) ∧ w' = w.setCell ⟨B, 0, none⟩ (.int .u64 y) := by
  have h1 := store64 (y := y) h.c0 (h.f 0)
  have hc := h.c0
  go_enter Yba.func21, Yba.ntmps21
  go_wp2
  go_end0
  exact ⟨rfl, rfl⟩
theorem state_load (B : Nat) (st : Int) (s an : Option Addr) (w : World) (h : GS B st s an w) :
    Calls Yba.prog 16 #[.pointer (some ⟨B, 0, none⟩)] w fun e w' => e = .returned (.int .u64 st) ∧ w' = w := by
  have h1 := load64 h.c0
  have hc := h.c0
  go_enter Yba.func16, Yba.ntmps16
  go_wp2
  go_ret
  exact ⟨rfl, rfl⟩

theorem casP_hit {a : Addr} {y : Option Addr} {w : World} (hc : w.cell? a = some (.pointer none)) (hz : w.frozen? a = false) :
    (callFunc 63 #[.pointer (some a), .pointer none, .pointer y]).run Yba.prog w = .ok (.value (.bool true)) (w.setCell a (.pointer y)) :=
  run_call_casPtr_hit Yba.func63 (by kernel_rfl) (by kernel_rfl) (by kernel_rfl) (by kernel_rfl) hc hz
theorem casP_miss {a b : Addr} {y : Option Addr} {w : World} (hc : w.cell? a = some (.pointer (some b))) (hz : w.frozen? a = false) :
    (callFunc 63 #[.pointer (some a), .pointer none, .pointer y]).run Yba.prog w = .ok (.value (.bool false)) w :=
  run_call_casPtr_miss Yba.func63 (by kernel_rfl) (by kernel_rfl) (by kernel_rfl) (by kernel_rfl) hc hz

theorem info41 : (Yba.prog.info? 41).map (fun i => decide (i.size = 0)) = some false := by kernel_rfl
theorem info78 : (Yba.prog.info? 78).map (fun i => decide (i.size = 0)) = some false := by kernel_rfl
theorem lies41 : liesAt Yba.prog Yba.prog.depth 41 (59 / Yba.prog.cellsOf 41) 0 41 1 = true := by kernel_rfl

/-- '*Group' to 'unsafe.Pointer' and back. -/
theorem conv_to (B : Nat) {w : World} {v : Value} (hc : w.cell? ⟨B, 0, none⟩ = some v) : (convert 31 33 (.pointer (some ⟨B, 0, none⟩))).run Yba.prog w = .ok (.pointer (some ⟨B, 0, none⟩)) w :=
  run_convert_to_unsafe Yba.underlying31 Yba.underlying33 info41 hc
theorem conv_to_nil (w : World) : (convert 31 33 (.pointer none)).run Yba.prog w = .ok (.pointer none) w := by
  simp [convert, Conv.unsafePointer, run_underlying Yba.underlying31, run_underlying Yba.underlying33]
theorem conv_back (B : Nat) {w : World} (hsh : w.shape? B = some (41, 59)) : (convert 33 31 (.pointer (some ⟨B, 0, none⟩))).run Yba.prog w = .ok (.pointer (some ⟨B, 0, none⟩)) w := by
  obtain ⟨j, hj, _⟩ := Option.map_eq_some_iff.1 info41
  exact Lib.run_from_unsafe w ⟨B, 0, none⟩ Yba.underlying33 Yba.underlying31 hj hsh lies41

theorem self_store (B : Nat) (st : Int) (s an : Option Addr) (w : World) (h : GS B st s an w) :
    Calls Yba.prog 23 #[.pointer (some ⟨B, 57, none⟩), .pointer (some ⟨B, 0, none⟩)] w fun e w' => e = .returned (.tuple #[]) ∧ w' = w.setCell ⟨B, 57, none⟩ (.pointer (some ⟨B, 0, none⟩)) := by
  have h1 := storeP (y := some ⟨B, 0, none⟩) h.c57 (h.f 57)
  have h2 := conv_to B h.c0
  have hc := h.c57
  go_enter Yba.func23, Yba.ntmps23
  go_wp2
  go_end0
  exact ⟨rfl, rfl⟩
theorem self_load (B : Nat) (st : Int) (an : Option Addr) (w : World) (h : GS B st (some ⟨B, 0, none⟩) an w) :
    Calls Yba.prog 25 #[.pointer (some ⟨B, 57, none⟩)] w fun e w' => e = .returned (.pointer (some ⟨B, 0, none⟩)) ∧ w' = w := by
  have h1 := loadP h.c57
  have h2 := conv_back B h.sh
  have hc := h.c57
  go_enter Yba.func25, Yba.ntmps25
  go_wp2
  go_ret
  exact ⟨rfl, rfl⟩
theorem self_cas_hit (B : Nat) (st : Int) (an : Option Addr) (w : World) (h : GS B st none an w) :
    Calls Yba.prog 42 #[.pointer (some ⟨B, 57, none⟩), .pointer none, .pointer (some ⟨B, 0, none⟩)] w fun e w' => e = .returned (.bool true) ∧ w' = w.setCell ⟨B, 57, none⟩ (.pointer (some ⟨B, 0, none⟩)) := by
  have h1 := casP_hit (y := some ⟨B, 0, none⟩) h.c57 (h.f 57)
  have h2 := conv_to B h.c0
  have h3 := conv_to_nil
  have hc := h.c57
  go_enter Yba.func42, Yba.ntmps42
  go_wp2
  go_ret
  exact ⟨rfl, rfl⟩
theorem self_cas_miss (B : Nat) (st : Int) (b : Addr) (an : Option Addr) (w : World) (h : GS B st (some b) an w) :
    Calls Yba.prog 42 #[.pointer (some ⟨B, 57, none⟩), .pointer none, .pointer (some ⟨B, 0, none⟩)] w fun e w' => e = .returned (.bool false) ∧ w' = w := by
  have h1 := casP_miss (y := some ⟨B, 0, none⟩) h.c57 (h.f 57)
  have h2 := conv_to B h.c0
  have h3 := conv_to_nil
  have hc := h.c57
  go_enter Yba.func42, Yba.ntmps42
  go_wp2
  go_ret
  exact ⟨rfl, rfl⟩
end Go.Proofs.Ybulkejkw.lawS6782CWhole
