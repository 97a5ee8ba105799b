import Derived.Test.YbulkejkwBAll
namespace Go.Proofs.Ybulkejkw.lawS6782BWhole
open Go.RowKit
set_option linter.unusedVariables false

/-- What the law looks at behind its last push. -/
structure Fin (N : Nat) (w0 : World) (m : Nat) (ms : List Nat) (ns : List ByteArray) (name : ByteArray) (left : Bool) (x : Int) (w : World) : Prop where
  below : Below N w0 w
  len : ns.length = ms.length
  num : w.cell? ⟨N, 2, none⟩ = some (.int .i64 (wrap64 (x + 1)))
  last : w.cell? ⟨N, 1, none⟩ = some (.pointer (some ⟨m, 0, none⟩))
  first : w.cell? ⟨N, 0, none⟩ = some (.pointer (optp (ms ++ [m])[0]?))
  mname : w.cell? ⟨m, 0, none⟩ = some (.string name)
  mprev : w.cell? ⟨m, 1, none⟩ = some (.pointer (optp ms[ms.length - 1]?))
  mnext : w.cell? ⟨m, 2, none⟩ = some (.pointer none)
  mleft : w.cell? ⟨m, 3, none⟩ = some (.bool left)
  model : ∀ (j b : Nat), ms[j]? = some b → w.cell? ⟨N + 1, j, none⟩ = some (.pointer (some ⟨b, 0, none⟩))
  names : ∀ (j b : Nat), ms[j]? = some b → w.cell? ⟨N + 1 + 1, j, none⟩ = some (.string (ns.getD j default))
  name_ : ∀ (j b : Nat), ms[j]? = some b → w.cell? ⟨b, 0, none⟩ = some (.string (ns.getD j default))
  prev : ∀ (j b : Nat), ms[j]? = some b → w.cell? ⟨b, 1, none⟩ = some (.pointer (optp (prevOf ms j)))
  next : ∀ (j b : Nat), ms[j]? = some b → w.cell? ⟨b, 2, none⟩ = some (.pointer (optp (ms ++ [m])[j + 1]?))
  flag : ∀ (j b : Nat), ms[j]? = some b → w.cell? ⟨b, 3, none⟩ = some (.bool false)

variable {N C : Nat} {w0 w : World} {ms : List Nat} {ns : List ByteArray}

theorem AllI.setN (h : AllI N C w0 ms ns ms ns w) (x : Int) : AllI N C w0 ms ns ms ns (w.setCell ⟨N, 2, none⟩ (.int .i64 x)) ∧ (w.setCell ⟨N, 2, none⟩ (.int .i64 x)).cell? ⟨N, 2, none⟩ = some (.int .i64 x) := by
  obtain ⟨n, hn⟩ := h.roll.num
  have hx : (w.setCell ⟨N, 2, none⟩ (.int .i64 x)).cell? ⟨N, 2, none⟩ = some (.int .i64 x) := World.cell?_setCell_same _ _ _ hn
  have ho := only_setCell w N 2 (.int .i64 x)
  have hoff : ∀ i, i ≠ 2 → (w.setCell ⟨N, 2, none⟩ (.int .i64 x)).cell? ⟨N, i, none⟩ = w.cell? ⟨N, i, none⟩ := fun i hi => World.cell?_setCell_other _ _ _ _ (ne_off (fun e => hi e.symm))
  have hb : ∀ b ∈ ms, b ≠ N := fun b hb => by have := h.roll.big b hb; omega
  refine ⟨⟨by rw [ho.size]; exact h.sz, h.below.trans (ho.below N (Nat.le_refl N)), fun b i hb => by rw [ho.frozen]; exact h.fz b i hb, ?_, fun b hbm => by rw [ho.cell b 3 (hb b hbm)]; exact h.flag b hbm, h.model.same (fun i => ho.cell _ i (by omega)), h.names.same (fun i => ho.cell _ i (by omega))⟩, hx⟩
  have r := h.roll
  exact ⟨r.len, r.nodup, r.big, fun b hbm => by rw [ho.size]; exact r.lt b hbm, by rw [hoff 0 (by omega)]; exact r.first, by rw [hoff 1 (by omega)]; exact r.last, ⟨x, hx⟩,
    fun j b hbm => by rw [ho.cell b 0 (hb b (List.mem_of_getElem? hbm))]; exact r.name j b hbm, fun j b hbm => by rw [ho.cell b 1 (hb b (List.mem_of_getElem? hbm))]; exact r.prev j b hbm, fun j b hbm => by rw [ho.cell b 2 (hb b (List.mem_of_getElem? hbm))]; exact r.next j b hbm⟩

theorem fin_push (h : AllI N C w0 ms ns ms ns w) (x : Int) (name : ByteArray) (left : Bool) :
    Calls Yba.prog 20 #[.pointer (some ⟨N, 0, none⟩), .pointer (some ⟨w.heap.size, 0, none⟩)] ((w.setCell ⟨N, 2, none⟩ (.int .i64 x)).alloc (.cells #[.string name, .pointer none, .pointer none, .bool left] 73)) fun e w' =>
      e = .returned (.tuple #[]) ∧ Fin N w0 w.heap.size ms ns name left x w' := by
  obtain ⟨h2, hx⟩ := h.setN x
  have hs : (w.setCell ⟨N, 2, none⟩ (.int .i64 x)).heap.size = w.heap.size := size_setCell _ _ _
  have hp := push_said h2 name left
  rw [hs] at hp
  have hz := h.sz
  have hxa : ((w.setCell ⟨N, 2, none⟩ (.int .i64 x)).alloc (.cells #[.string name, .pointer none, .pointer none, .bool left] 73)).cell? ⟨N, 2, none⟩ = some (.int .i64 x) := by
    rw [World.cell?_alloc_past _ _ _ (by rw [hs]; omega)]; exact hx
  refine hp.mono ?_
  rintro e w3 ⟨rfl, hs3, hb3, hf3, hr, hfl, hml, hmo, hna, _, n, hn, hn3⟩
  rw [hxa] at hn
  simp only [Option.some.injEq, Value.int.injEq, true_and] at hn
  subst hn
  have hm : (ms ++ [w.heap.size])[ms.length]? = some w.heap.size := by simp
  have hleft : ∀ (j b : Nat), ms[j]? = some b → (ms ++ [w.heap.size])[j]? = some b ∧ j < ms.length := fun j b hb => by
    have hj := (List.getElem?_eq_some_iff.1 hb).1
    exact ⟨by rw [List.getElem?_append_left hj]; exact hb, hj⟩
  have hlen : ns.length = ms.length := h.roll.len
  refine ⟨rfl, hb3, hlen, hn3, ?_, hr.first, ?_, ?_, ?_, hml, ?_, ?_, ?_, ?_, ?_, ?_⟩
  · rw [hr.last]; simp [optp, at0]
  · rw [hr.name _ _ hm]; simp [← hlen]
  · rw [hr.prev _ _ hm]
    unfold prevOf
    by_cases h0 : ms.length = 0
    · have : ms = [] := List.eq_nil_of_length_eq_zero h0
      subst this
      rfl
    · rw [if_neg h0, List.getElem?_append_left (by omega)]
  · rw [hr.next _ _ hm]; simp [optp]
  · intro j b hb
    exact hmo.cell j (mval b) (by rw [List.getElem?_map, hb]; rfl)
  · intro j b hb
    have hj := (hleft j b hb).2
    exact hna.cell j _ (by rw [List.getElem?_map, List.getElem?_eq_getElem (by omega)]; simp [List.getElem?_eq_getElem (show j < ns.length by omega)])
  · intro j b hb
    obtain ⟨h1, hj⟩ := hleft j b hb
    rw [hr.name j b h1]
    simp [List.getElem?_append, hlen, hj]
  · intro j b hb
    obtain ⟨h1, hj⟩ := hleft j b hb
    rw [hr.prev j b h1]
    unfold prevOf
    by_cases h0 : j = 0
    · simp [h0]
    · rw [if_neg h0, if_neg h0, List.getElem?_append_left (by omega)]
  · intro j b hb
    exact hr.next j b (hleft j b hb).1
  · intro j b hb
    exact hfl b (List.mem_of_getElem? hb)
end Go.Proofs.Ybulkejkw.lawS6782BWhole
