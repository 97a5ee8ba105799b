import Derived.Test.YbulkejkwAtomic
import Derived.LaidEql
import Derived.RowKit3
namespace Go.Proofs.Ybulkejkw.lawS6782CWhole
open Go.RowKit
set_option linter.unusedVariables false

theorem equalIn_self {P : Program} (d : Nat) {t e : TypeId} {j : TypeInfo} (p : Option Addr) (w : World) (ht : P.underlying t = some (.pointer e)) (hj : P.info? e = some j) :
    (Op.equalIn (d + 1) t (.pointer p) (.pointer p)).run P w = .ok true w := by
  cases p <;> simp [Op.equalIn, run_underlying ht, sizeOf, typeInfo, hj, run_sameAddr_same]
theorem neq_self {P : Program} {t e : TypeId} {j : TypeInfo} (p : Option Addr) (w : World) (ht : P.underlying t = some (.pointer e)) (hj : P.info? e = some j) :
    (binOp .neq t (.pointer p) (.pointer p)).run P w = .ok (.bool false) w := by
  have h : (Op.equal t (.pointer p) (.pointer p)).run P w = .ok true w := equalIn_self 9999 p w ht hj
  simp only [binOp]
  simp [h]
theorem neq_group (p : Option Addr) (w : World) : (binOp .neq 31 (.pointer p) (.pointer p)).run Yba.prog w = .ok (.bool false) w := by
  obtain ⟨j, hj, _⟩ := Option.map_eq_some_iff.1 info41
  exact neq_self p w Yba.underlying31 hj
theorem neq_annex (p : Option Addr) (w : World) : (binOp .neq 36 (.pointer p) (.pointer p)).run Yba.prog w = .ok (.bool false) w := by
  obtain ⟨j, hj, _⟩ := Option.map_eq_some_iff.1 info78
  exact neq_self p w Yba.underlying36 hj

theorem use_fresh (B : Nat) (st : Int) (an : Option Addr) (w : World) (h : GS B st none an w) :
    Calls Yba.prog 24 #[.pointer (some ⟨B, 0, none⟩)] w fun e w' => e = .returned (.tuple #[]) ∧ w' = w.setCell ⟨B, 57, none⟩ (.pointer (some ⟨B, 0, none⟩)) := by
  have h1 := self_cas_hit B st an w h
  have hc := h.c0
  go_enter Yba.func24, Yba.ntmps24
  go_wp2_with (go_at_call 42; refine h1.mono ?_; rintro e w' ⟨rfl, rfl⟩)
  go_end0
  exact ⟨rfl, rfl⟩
theorem use_again (B : Nat) (st : Int) (an : Option Addr) (w : World) (h : GS B st (some ⟨B, 0, none⟩) an w) :
    Calls Yba.prog 24 #[.pointer (some ⟨B, 0, none⟩)] w fun e w' => e = .returned (.tuple #[]) ∧ w' = w := by
  have h1 := self_cas_miss B st _ an w h
  have h2 := self_load B st an w h
  have h3 := neq_group (some ⟨B, 0, none⟩)
  have hc := h.c0
  go_enter Yba.func24, Yba.ntmps24
  go_wp2_with (first | (go_at_call 42; refine h1.mono ?_; rintro e w1 ⟨rfl, hw1⟩; have hw2 := hw1.symm; clear hw1; subst hw2) | (go_at_call 25; refine h2.mono ?_; rintro e w1 ⟨rfl, hw1⟩; have hw2 := hw1.symm; clear hw1; subst hw2))
  go_end0
  exact ⟨rfl, rfl⟩

/-! The annex's pointer. -/
theorem annex_store (B A : Nat) (st : Int) (s an : Option Addr) (w : World) (h : GS B st s an w) (ha : w.shape? A = some (78, 6)) :
    Calls Yba.prog 22 #[.pointer (some ⟨B, 58, none⟩), .pointer (some ⟨A, 0, none⟩)] w fun e w' => e = .returned (.tuple #[]) ∧ w' = w.setCell ⟨B, 58, none⟩ (.pointer (some ⟨A, 0, none⟩)) := by
  have h1 := storeP (y := some ⟨A, 0, none⟩) h.c58 (h.f 58)
  have h2 := conv_annex_to A ha
  have hc := h.c58
  clear ha
  go_enter Yba.func22, Yba.ntmps22
  go_wp2
  go_end0
  exact ⟨rfl, rfl⟩
theorem annex_load_nil (B : Nat) (st : Int) (s : Option Addr) (w : World) (h : GS B st s none w) :
    Calls Yba.prog 26 #[.pointer (some ⟨B, 58, none⟩)] w fun e w' => e = .returned (.pointer none) ∧ w' = w := by
  have h1 := loadP h.c58
  have h2 := conv_annex_nil
  have hc := h.c58
  go_enter Yba.func26, Yba.ntmps26
  go_wp2
  go_ret
  exact ⟨rfl, rfl⟩
theorem annex_load (B A : Nat) (st : Int) (s : Option Addr) (w : World) (h : GS B st s (some ⟨A, 0, none⟩) w) (hsh : w.shape? A = some (78, 6)) :
    Calls Yba.prog 26 #[.pointer (some ⟨B, 58, none⟩)] w fun e w' => e = .returned (.pointer (some ⟨A, 0, none⟩)) ∧ w' = w := by
  have h1 := loadP h.c58
  have h2 := conv_annex_back A hsh
  have hc := h.c58
  clear hsh
  go_enter Yba.func26, Yba.ntmps26
  go_wp2
  go_ret
  exact ⟨rfl, rfl⟩
end Go.Proofs.Ybulkejkw.lawS6782CWhole
