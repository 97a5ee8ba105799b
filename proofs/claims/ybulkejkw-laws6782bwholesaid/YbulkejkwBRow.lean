import Derived.Test.YbulkejkwBInv
import Derived.Test.YbulkejkwShelf
namespace Go.Proofs.Ybulkejkw.lawS6782BWhole
open Go.RowKit
set_option linter.unusedVariables false

/-- A row of C cells in block blk; the first of them hold vs. -/
structure RowI (blk C : Nat) (vs : List Value) (w : World) : Prop where
  le : vs.length ≤ C
  cell : ∀ (j : Nat) (v : Value), vs[j]? = some v → w.cell? ⟨blk, j, none⟩ = some v
  room : ∀ j, j < C → (w.cell? ⟨blk, j, none⟩).isSome = true

theorem RowI.same {blk C : Nat} {vs : List Value} {w w' : World} (h : RowI blk C vs w) (hc : ∀ i, w'.cell? ⟨blk, i, none⟩ = w.cell? ⟨blk, i, none⟩) : RowI blk C vs w' :=
  ⟨h.le, fun j v hv => by rw [hc]; exact h.cell j v hv, fun j hj => by rw [hc]; exact h.room j hj⟩

/-- w' is w but for cells of block blk. -/
structure Only (blk : Nat) (w w' : World) : Prop where
  cell : ∀ b i, b ≠ blk → w'.cell? ⟨b, i, none⟩ = w.cell? ⟨b, i, none⟩
  frozen : ∀ a, w'.frozen? a = w.frozen? a
  size : w'.heap.size = w.heap.size
  below : ∀ N, N ≤ blk → Below N w w'

theorem only_setCell (w : World) (blk i : Nat) (v : Value) : Only blk w (w.setCell ⟨blk, i, none⟩ v) :=
  ⟨fun b j hb => World.cell?_setCell_other _ _ _ _ (ne_block (fun e => hb e.symm)), fun a => World.frozen?_setCell _ _ _ _, size_setCell _ _ _, fun N hN => (Below.refl N w).setCell (p := ⟨blk, i, none⟩) hN v⟩

/-- One element more, where there is room. -/
theorem RowI.append {blk C : Nat} {vs : List Value} {w : World} (h : RowI blk C vs w) (hlt : vs.length < C) (v : Value) : RowI blk C (vs ++ [v]) (w.setCell ⟨blk, vs.length, none⟩ v) := by
  obtain ⟨u, hu⟩ := Option.isSome_iff_exists.1 (h.room vs.length hlt)
  refine ⟨by simp; omega, fun j x hx => ?_, fun j hj => ?_⟩
  · rw [List.getElem?_append] at hx
    split at hx
    · rw [World.cell?_setCell_other _ _ _ _ (ne_off (by simp; omega))]
      exact h.cell j x hx
    · have hj0 : j - vs.length = 0 := by
        have := (List.getElem?_eq_some_iff.1 hx).1
        simp at this
        omega
      rw [hj0] at hx
      simp at hx
      subst hx
      have : j = vs.length := by omega
      subst this
      exact World.cell?_setCell_same _ _ _ hu
  · by_cases hj2 : j = vs.length
    · subst hj2
      rw [World.cell?_setCell_same _ _ _ hu]
      rfl
    · rw [World.cell?_setCell_other _ _ _ _ (ne_off (by simp; omega))]
      exact h.room j hj

theorem keep_mapBlock (w : World) (blk : Nat) (f : Array Value → Array Value) (N : Nat) (h : N ≤ blk) : Below N w (Sort.mapBlock w blk f) := by
  refine ⟨rfl, rfl, rfl, by simp [Sort.mapBlock], fun k hk => ?_⟩
  simp only [Sort.mapBlock, Array.getElem?_modify]
  rw [if_neg (by omega)]

section
variable {α : Type} [Inhabited α]
theorem only_putRow (enc : α → Value) (w : World) (q blk : Nat) (d : Array α) : Only blk w (Sort.putRow enc (Sort.ahead w q) blk 0 d) :=
  ⟨fun b i hb => Sort.cell?_putRow_other enc _ blk 0 d ⟨b, i, none⟩ (.inl hb), fun a => Sort.frozen?_putRow enc _ blk 0 d a, Sort.size_putRow enc _ blk 0 d, fun N hN => (⟨rfl, rfl, rfl, Nat.le_refl _, fun _ _ => rfl⟩ : Below N w (Sort.ahead w q)).trans (keep_mapBlock _ _ _ N hN)⟩

theorem holds_row (enc : α → Value) (blk C : Nat) (xs : List α) (w : World) (h : RowI blk C (xs.map enc) w) (fz : ∀ i, w.frozen? ⟨blk, i, none⟩ = false) : Sort.Holds enc w blk 0 xs.toArray := by
  intro j hj
  have hj' : j < xs.length := by simpa using hj
  refine ⟨?_, fz _⟩
  rw [Nat.zero_add, getElem!_pos _ j hj]
  exact h.cell j _ (by simp [hj'])

theorem row_delete (enc : α → Value) (blk C k q : Nat) (xs : List α) (zr : α) (w : World) (hk : k < xs.length) (h : RowI blk C (xs.map enc) w) (fz : ∀ i, w.frozen? ⟨blk, i, none⟩ = false) :
    RowI blk C ((xs.eraseIdx k).map enc) (Sort.putRow enc (Sort.ahead w q) blk 0 (xs.toArray.toList.take k ++ xs.toArray.toList.drop (k + 1) ++ List.replicate (k + 1 - k) zr).toArray) := by
  have hH := holds_row enc blk C xs w h fz
  have hsz : (xs.toArray.toList.take k ++ xs.toArray.toList.drop (k + 1) ++ List.replicate (k + 1 - k) zr).toArray.size = xs.toArray.size := by
    simp
    omega
  have hH2 : Sort.Holds enc (Sort.ahead w q) blk 0 xs.toArray := hH
  have hle : xs.length ≤ C := by simpa using h.le
  have hcell : ∀ j, j < xs.length → (Sort.putRow enc (Sort.ahead w q) blk 0 (xs.toArray.toList.take k ++ xs.toArray.toList.drop (k + 1) ++ List.replicate (k + 1 - k) zr).toArray).cell? ⟨blk, j, none⟩ = some (enc (xs.toArray.toList.take k ++ xs.toArray.toList.drop (k + 1) ++ List.replicate (k + 1 - k) zr).toArray[j]!) := fun j hj => by
    have := Sort.cell?_putRow enc (Sort.ahead w q) blk 0 xs.toArray _ hH2 hsz j (by rw [hsz]; simpa using hj)
    rw [Nat.zero_add] at this
    exact this
  refine ⟨by simp [List.length_eraseIdx, hk]; omega, fun j v hv => ?_, fun j hj => ?_⟩
  · rw [List.getElem?_map, Option.map_eq_some_iff] at hv
    obtain ⟨x, hx, rfl⟩ := hv
    have hjl := (List.getElem?_eq_some_iff.1 hx).1
    rw [List.length_eraseIdx, if_pos hk] at hjl
    rw [hcell j (by omega)]
    congr 2
    rw [getElem!_pos _ j (by rw [hsz]; simp; omega)]
    have : (xs.eraseIdx k) = xs.take k ++ xs.drop (k + 1) := List.eraseIdx_eq_take_drop_succ ..
    rw [this] at hx
    have h2 := (List.getElem?_eq_some_iff.1 hx).2
    have h3 := (List.getElem?_eq_some_iff.1 hx).1
    simp only [List.getElem_toArray]
    rw [List.getElem_append_left (by simpa using h3)]
    exact h2
  · by_cases hjl : j < xs.length
    · rw [hcell j hjl]; rfl
    · rw [Sort.cell?_putRow_other enc _ blk 0 _ ⟨blk, j, none⟩ (.inr (.inr (by rw [hsz]; simp; omega)))]
      exact h.room j hj
end

theorem erase_map {α β : Type} (f : α → β) (xs : List α) (k : Nat) : (xs.map f).eraseIdx k = (xs.eraseIdx k).map f := by
  rw [List.eraseIdx_eq_take_drop_succ, List.eraseIdx_eq_take_drop_succ]; simp

def mval (b : Nat) : Value := .pointer (some (at0 b))
theorem mvals (ms : List Nat) : ms.map mval = (ms.map fun b => some (at0 b)).map Value.pointer := by
  rw [List.map_map]; rfl

theorem zero62 : ∀ w, (zeroValue 62).run Yba.prog w = .ok (Value.pointer none) w := by intro w; kernel_rfl
theorem zero9 : ∀ w, (zeroValue 9).run Yba.prog w = .ok (Value.string ByteArray.empty) w := by intro w; kernel_rfl
theorem size62 : (Yba.prog.info? 62).map (fun i => i.size) = some 1 := by kernel_rfl
theorem size9 : (Yba.prog.info? 9).map (fun i => i.size) = some 1 := by kernel_rfl

/-- 'slices.Delete(model, k, k+1)'. -/
theorem delete_model (blk C k : Nat) (ms : List Nat) (w : World) (hk : k < ms.length) (hC : C ≤ 65536) (h : RowI blk C (ms.map mval) w) (fz : ∀ i, w.frozen? ⟨blk, i, none⟩ = false) :
    Calls Yba.prog 18 #[.slice (some ⟨blk, 0, none⟩) ms.length C, .int .i64 k, .int .i64 ((k + 1 : Nat) : Int)] w fun e w' => e = .returned (.slice (some ⟨blk, 0, none⟩) (ms.eraseIdx k).length C) ∧
      RowI blk C ((ms.eraseIdx k).map mval) w' ∧ Only blk w w' := by
  obtain ⟨i0, hi0, hz1⟩ := Option.map_eq_some_iff.1 size62
  rw [mvals] at h
  have hc := Yba.slices_DeleteP (α := Option Addr) Value.pointer (fun _ => rfl) none zero62 i0 hi0 hz1 blk 0 C k (k + 1) (ms.map fun b => some (at0 b)).toArray w (holds_row Value.pointer blk C _ w h fz) (by simpa using h.le) (by omega) (by omega) (by simp; omega)
  have hd := fun q => row_delete Value.pointer blk C k q (ms.map fun b => some (at0 b)) none w (by simpa using hk) h fz
  rw [show (ms.map fun b => some (at0 b)).toArray.size = ms.length by simp] at hc
  refine Calls.mono hc ?_
  rintro e w' ⟨rfl, q, rfl⟩
  refine ⟨?_, ?_, only_putRow _ _ _ _ _⟩
  · rw [List.length_eraseIdx, if_pos hk, show k + 1 - k = 1 by omega]
  · have := hd q
    rw [erase_map, ← mvals] at this
    exact this

/-- 'slices.Delete(names, k, k+1)'. -/
theorem delete_names (blk C k : Nat) (ns : List ByteArray) (w : World) (hk : k < ns.length) (hC : C ≤ 65536) (h : RowI blk C (ns.map Value.string) w) (fz : ∀ i, w.frozen? ⟨blk, i, none⟩ = false) :
    Calls Yba.prog 19 #[.slice (some ⟨blk, 0, none⟩) ns.length C, .int .i64 k, .int .i64 ((k + 1 : Nat) : Int)] w fun e w' => e = .returned (.slice (some ⟨blk, 0, none⟩) (ns.eraseIdx k).length C) ∧
      RowI blk C ((ns.eraseIdx k).map Value.string) w' ∧ Only blk w w' := by
  obtain ⟨i0, hi0, hz1⟩ := Option.map_eq_some_iff.1 size9
  have hc := Yba.slices_Delete (α := ByteArray) Value.string (fun _ => rfl) ByteArray.empty zero9 i0 hi0 hz1 blk 0 C k (k + 1) ns.toArray w (holds_row Value.string blk C _ w h fz) (by simpa using h.le) (by omega) (by omega) (by simp; omega)
  have hd := fun q => row_delete Value.string blk C k q ns ByteArray.empty w (by simpa using hk) h fz
  rw [show ns.toArray.size = ns.length by simp] at hc
  refine Calls.mono hc ?_
  rintro e w' ⟨rfl, q, rfl⟩
  refine ⟨?_, hd q, only_putRow _ _ _ _ _⟩
  rw [List.length_eraseIdx, if_pos hk, show k + 1 - k = 1 by omega]
end Go.Proofs.Ybulkejkw.lawS6782BWhole
