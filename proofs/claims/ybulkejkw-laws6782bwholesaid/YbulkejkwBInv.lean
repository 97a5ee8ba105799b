import Derived.Test.YbulkejkwBMem
namespace Go.Proofs.Ybulkejkw.lawS6782BWhole
open Go.RowKit
set_option linter.unusedVariables false

theorem look_ne {a b : Addr} {v : Value} {r : List (Addr × Value)} {d : Option Value} (h : a ≠ b) : look ((a, v) :: r) b d = look r b d := by
  show (if a = b then some v else look r b d) = _
  rw [if_neg h]
theorem look_eq {a b : Addr} {v : Value} {r : List (Addr × Value)} {d : Option Value} (h : a = b) : look ((a, v) :: r) b d = some v := by
  show (if a = b then some v else look r b d) = _
  rw [if_pos h]
theorem ne_block {a b : Addr} (h : a.block ≠ b.block) : a ≠ b := fun e => h (by rw [e])
theorem ne_off {a b : Addr} (h : a.off ≠ b.off) : a ≠ b := fun e => h (by rw [e])

def prevOf (ms : List Nat) (j : Nat) : Option Nat := if j = 0 then none else ms[j - 1]?

/-- The roll in block R: the members ms, in order, linked both ways; their names ns. -/
structure RollI (R : Nat) (ms : List Nat) (ns : List ByteArray) (w : World) : Prop where
  len : ns.length = ms.length
  nodup : ms.Nodup
  big : ∀ b ∈ ms, R + 3 ≤ b
  lt : ∀ b ∈ ms, b < w.heap.size
  first : w.cell? ⟨R, 0, none⟩ = some (.pointer (optp ms[0]?))
  last : w.cell? ⟨R, 1, none⟩ = some (.pointer (optp ms[ms.length - 1]?))
  num : ∃ n, w.cell? ⟨R, 2, none⟩ = some (.int .i64 n)
  name : ∀ (j b : Nat), ms[j]? = some b → w.cell? ⟨b, 0, none⟩ = some (.string (ns.getD j default))
  prev : ∀ (j b : Nat), ms[j]? = some b → w.cell? ⟨b, 1, none⟩ = some (.pointer (optp (prevOf ms j)))
  next : ∀ (j b : Nat), ms[j]? = some b → w.cell? ⟨b, 2, none⟩ = some (.pointer (optp ms[j + 1]?))

/-- What the roll is made of does not turn: it is the same roll. -/
theorem RollI.same {R : Nat} {ms : List Nat} {ns : List ByteArray} {w w' : World} (h : RollI R ms ns w) (hs : w.heap.size ≤ w'.heap.size)
    (hc : ∀ b i, b = R ∨ b ∈ ms → w'.cell? ⟨b, i, none⟩ = w.cell? ⟨b, i, none⟩) : RollI R ms ns w' :=
  ⟨h.len, h.nodup, h.big, fun b hb => Nat.lt_of_lt_of_le (h.lt b hb) hs, by rw [hc R 0 (.inl rfl)]; exact h.first, by rw [hc R 1 (.inl rfl)]; exact h.last,
    by obtain ⟨n, hn⟩ := h.num; exact ⟨n, by rw [hc R 2 (.inl rfl)]; exact hn⟩,
    fun j b hb => by rw [hc b 0 (.inr (List.mem_of_getElem? hb))]; exact h.name j b hb, fun j b hb => by rw [hc b 1 (.inr (List.mem_of_getElem? hb))]; exact h.prev j b hb,
    fun j b hb => by rw [hc b 2 (.inr (List.mem_of_getElem? hb))]; exact h.next j b hb⟩

theorem nodup_idx {ms : List Nat} (h : ms.Nodup) {i j b : Nat} (hi : ms[i]? = some b) (hj : ms[j]? = some b) : i = j := by
  have hil := (List.getElem?_eq_some_iff.1 hi).1
  have hjl := (List.getElem?_eq_some_iff.1 hj).1
  have hp := List.pairwise_iff_getElem.1 h
  have e : ms[i] = ms[j] := by
    have h1 := (List.getElem?_eq_some_iff.1 hi).2
    have h2 := (List.getElem?_eq_some_iff.1 hj).2
    rw [h1, h2]
  rcases Nat.lt_trichotomy i j with hlt | heq | hgt
  · exact absurd e (hp i j hil hjl hlt)
  · exact heq
  · exact absurd e.symm (hp j i hjl hil hgt)

/-- 'push' keeps the roll: the new member stands last. -/
theorem RollI.push {R : Nat} {ms : List Nat} {ns : List ByteArray} {w w' : World} {N m : Nat} {n : Int} {nm : ByteArray} (h : RollI R ms ns w) (hm : R + 3 ≤ m) (hml : m < w.heap.size) (hnew : m ∉ ms)
    (c0 : w.cell? ⟨m, 0, none⟩ = some (.string nm)) (c2 : w.cell? ⟨m, 2, none⟩ = some (.pointer none))
    (u : Upd N w w' [(⟨R, 2, none⟩, .int .i64 (wrap64 (n + 1))), (⟨R, 1, none⟩, .pointer (some ⟨m, 0, none⟩)), (linkL R ms[ms.length - 1]?, .pointer (some ⟨m, 0, none⟩)), (⟨m, 1, none⟩, .pointer (optp ms[ms.length - 1]?))]) :
    RollI R (ms ++ [m]) (ns ++ [nm]) w' := by
  have hRm : R ≠ m := by omega
  have hmR : m ≠ R := by omega
  have hlast : ∀ l, ms[ms.length - 1]? = some l → l ≠ R ∧ l ≠ m := fun l hl => by
    have hmem := List.mem_of_getElem? hl
    have := h.big l hmem
    exact ⟨by omega, fun e => hnew (e ▸ hmem)⟩
  have hoth : ∀ b ∈ ms, b ≠ R ∧ b ≠ m := fun b hb => ⟨by have := h.big b hb; omega, fun e => hnew (e ▸ hb)⟩
  refine ⟨by simp [h.len], ?_, ?_, ?_, ?_, ?_, ?_, ?_, ?_, ?_⟩
  · rw [List.nodup_append]
    refine ⟨h.nodup, by simp, fun a ha b hb => ?_⟩
    simp at hb
    subst hb
    exact fun e => hnew (e ▸ ha)
  · intro b hb
    rcases List.mem_append.1 hb with hb | hb
    · exact h.big b hb
    · simp at hb; subst hb; exact hm
  · intro b hb
    rw [u.size]
    rcases List.mem_append.1 hb with hb | hb
    · exact h.lt b hb
    · simp at hb; subst hb; exact hml
  · -- first
    rw [u.cell, look_ne (ne_off (by simp)), look_ne (ne_off (by simp))]
    cases hms : ms[ms.length - 1]? with
    | none =>
      have : ms = [] := by
        cases ms with
        | nil => rfl
        | cons x r => simp at hms
      subst this
      rw [look_eq (show linkL R none = ⟨R, 0, none⟩ from rfl)]
      rfl
    | some l =>
      rw [look_ne (ne_off (by simp [linkL])), look_ne (ne_off (by simp))]
      have hpos : 0 < ms.length := by
        have := (List.getElem?_eq_some_iff.1 hms).1
        omega
      show w.cell? _ = _
      rw [h.first, List.getElem?_append_left hpos]
  · -- last
    rw [u.cell, look_ne (ne_off (by simp)), look_eq rfl]
    simp [optp, at0]
  · exact ⟨_, by rw [u.cell, look_eq rfl]⟩
  · -- names
    intro j b hb
    rw [List.getElem?_append] at hb
    split at hb
    · rename_i hj
      have hbm := List.mem_of_getElem? hb
      obtain ⟨o1, o2⟩ := hoth b hbm
      rw [u.cell, look_ne (ne_off (by simp)), look_ne (ne_off (by simp)), look_ne (by
        cases hms : ms[ms.length - 1]? with
        | none => exact ne_block (fun e => o1 e.symm)
        | some l => exact ne_off (by simp [linkL])), look_ne (ne_off (by simp))]
      show w.cell? _ = _
      rw [h.name j b hb]
      simp [List.getElem?_append, h.len, hj]
    · rename_i hj
      have hj0 : j - ms.length = 0 := by
        have := (List.getElem?_eq_some_iff.1 hb).1
        simp at this
        omega
      rw [hj0] at hb
      simp at hb
      subst hb
      rw [u.cell, look_ne (ne_off (by simp)), look_ne (ne_off (by simp)), look_ne (by
        cases hms : ms[ms.length - 1]? with
        | none => exact ne_block hRm
        | some l => exact ne_off (by simp [linkL])), look_ne (ne_off (by simp))]
      show w.cell? _ = _
      rw [c0]
      have hjl : j = ms.length := by omega
      subst hjl
      simp [h.len]
  · -- prev
    intro j b hb
    rw [List.getElem?_append] at hb
    split at hb
    · rename_i hj
      have hbm := List.mem_of_getElem? hb
      obtain ⟨o1, o2⟩ := hoth b hbm
      rw [u.cell, look_ne (ne_off (by simp)), look_ne (ne_block (fun e => o1 e.symm)), look_ne (by
        cases hms : ms[ms.length - 1]? with
        | none => exact ne_off (by simp [linkL])
        | some l => exact ne_off (by simp [linkL])), look_ne (ne_block (fun e => o2 e.symm))]
      show w.cell? _ = _
      rw [h.prev j b hb]
      unfold prevOf
      by_cases h0 : j = 0
      · simp [h0]
      · rw [if_neg h0, if_neg h0, List.getElem?_append_left (by omega)]
    · rename_i hj
      have hj0 : j - ms.length = 0 := by
        have := (List.getElem?_eq_some_iff.1 hb).1
        simp at this
        omega
      rw [hj0] at hb
      simp at hb
      subst hb
      have hjl : j = ms.length := by omega
      subst hjl
      rw [u.cell, look_ne (ne_off (by simp)), look_ne (ne_block hRm), look_ne (by
        cases hms : ms[ms.length - 1]? with
        | none => exact ne_off (by simp [linkL])
        | some l => exact ne_off (by simp [linkL])), look_eq rfl]
      unfold prevOf
      by_cases h0 : ms.length = 0
      · have : ms = [] := List.eq_nil_of_length_eq_zero h0
        subst this
        rfl
      · rw [if_neg h0, List.getElem?_append_left (by omega)]
  · -- next
    intro j b hb
    rw [List.getElem?_append] at hb
    split at hb
    · rename_i hj
      have hbm := List.mem_of_getElem? hb
      obtain ⟨o1, o2⟩ := hoth b hbm
      rw [u.cell, look_ne (ne_block (fun e => o1 e.symm)), look_ne (ne_off (by simp))]
      by_cases hjl : j = ms.length - 1
      · subst hjl
        rw [hb, look_eq (show linkL R (some b) = ⟨b, 2, none⟩ from rfl)]
        rw [show ms.length - 1 + 1 = ms.length by omega]
        simp [optp, at0]
      · rw [look_ne (by
          cases hms : ms[ms.length - 1]? with
          | none => exact ne_off (by simp [linkL])
          | some l => exact ne_block (fun e => hjl (nodup_idx h.nodup hb (by rw [hms]; exact congrArg some e)))), look_ne (ne_off (by simp))]
        show w.cell? _ = _
        rw [h.next j b hb, List.getElem?_append_left (by omega)]
    · rename_i hj
      have hj0 : j - ms.length = 0 := by
        have := (List.getElem?_eq_some_iff.1 hb).1
        simp at this
        omega
      rw [hj0] at hb
      simp at hb
      subst hb
      have hjl : j = ms.length := by omega
      subst hjl
      rw [u.cell, look_ne (ne_block hRm), look_ne (ne_off (by simp)), look_ne (by
        cases hms : ms[ms.length - 1]? with
        | none => exact ne_off (by simp [linkL])
        | some l => exact ne_block (hlast l hms).2), look_ne (ne_off (by simp))]
      show w.cell? _ = _
      rw [c2]
      simp [optp]

theorem erase_get (ms : List Nat) (k j : Nat) : (ms.eraseIdx k)[j]? = if j < k then ms[j]? else ms[j + 1]? := List.getElem?_eraseIdx

/-- An entry of what is left, and where it stood before. -/
theorem erase_at {ms : List Nat} {k j b : Nat} (h : (ms.eraseIdx k)[j]? = some b) : ∃ j', ms[j']? = some b ∧ j' ≠ k ∧ (j < k → j' = j) ∧ (¬ j < k → j' = j + 1) := by
  rw [erase_get] at h
  split at h
  · exact ⟨j, h, by omega, fun _ => rfl, fun hn => absurd ‹_› hn⟩
  · exact ⟨j + 1, h, by omega, fun hl => absurd hl ‹_›, fun _ => rfl⟩

/-- 'remove' keeps the roll: the k-th member is gone. -/
theorem RollI.remove {R : Nat} {ms : List Nat} {ns : List ByteArray} {w w' : World} {N m k : Nat} {n : Int} (h : RollI R ms ns w) (hk : ms[k]? = some m)
    (u : Upd N w w' [(⟨R, 2, none⟩, .int .i64 (wrap64 (n - 1))), (⟨m, 2, none⟩, .pointer none), (⟨m, 1, none⟩, .pointer none), (linkN R ms[k + 1]?, .pointer (optp (prevOf ms k))), (linkP R (prevOf ms k), .pointer (optp ms[k + 1]?))]) :
    RollI R (ms.eraseIdx k) (ns.eraseIdx k) w' := by
  have hkl := (List.getElem?_eq_some_iff.1 hk).1
  have hmem := List.mem_of_getElem? hk
  have hRm : R ≠ m := by have := h.big m hmem; omega
  have hoth : ∀ (j b : Nat), ms[j]? = some b → b ≠ R := fun j b hb => by have := h.big b (List.mem_of_getElem? hb); omega
  have hsub : ∀ b ∈ ms.eraseIdx k, b ∈ ms := fun b hb => List.mem_of_mem_eraseIdx hb
  -- the member before
  have hprev : ∀ p, prevOf ms k = some p → 0 < k ∧ ms[k - 1]? = some p := fun p hp => by
    unfold prevOf at hp
    split at hp
    · cases hp
    · exact ⟨by omega, hp⟩
  refine ⟨by simp [List.length_eraseIdx, h.len], h.nodup.sublist (List.eraseIdx_sublist ..), fun b hb => h.big b (hsub b hb), fun b hb => by rw [u.size]; exact h.lt b (hsub b hb), ?_, ?_, ⟨_, by rw [u.cell, look_eq rfl]⟩, ?_, ?_, ?_⟩
  · -- first
    rw [u.cell, look_ne (ne_off (by simp)), look_ne (ne_off (by simp)), look_ne (ne_off (by simp)), look_ne (by cases ms[k + 1]? <;> exact ne_off (by simp [linkN]))]
    cases hp : prevOf ms k with
    | none =>
      rw [look_eq (show linkP R none = ⟨R, 0, none⟩ from rfl)]
      have hk0 : k = 0 := by
        unfold prevOf at hp
        split at hp
        · assumption
        · rw [List.getElem?_eq_none_iff] at hp; omega
      subst hk0
      rw [erase_get]
      simp
    | some p =>
      obtain ⟨h0, hp1⟩ := hprev p hp
      rw [look_ne (ne_off (by simp [linkP]))]
      show w.cell? _ = _
      rw [h.first, erase_get, if_pos h0]
  · -- last
    rw [u.cell, look_ne (ne_off (by simp)), look_ne (ne_off (by simp)), look_ne (ne_block (fun e => hRm e.symm))]
    have hlen : (ms.eraseIdx k).length = ms.length - 1 := by rw [List.length_eraseIdx, if_pos hkl]
    cases hn : ms[k + 1]? with
    | none =>
      rw [look_eq (show linkN R none = ⟨R, 1, none⟩ from rfl)]
      rw [List.getElem?_eq_none_iff] at hn
      rw [hlen, erase_get]
      unfold prevOf
      by_cases h0 : k = 0
      · have : ms.length = 1 := by omega
        rw [if_pos h0, this]
        subst h0
        simp
        rw [List.getElem?_eq_none (by omega)]
      · rw [if_neg h0, if_pos (by omega), show ms.length - 1 - 1 = k - 1 by omega]
    | some q =>
      have hq1 := (List.getElem?_eq_some_iff.1 hn).1
      rw [look_ne (ne_block (hoth _ _ hn)), look_ne (by cases prevOf ms k <;> exact ne_off (by simp [linkP]))]
      show w.cell? _ = _
      rw [h.last, hlen, erase_get, if_neg (by omega), show ms.length - 1 - 1 + 1 = ms.length - 1 by omega]
  · -- names
    intro j b hb
    obtain ⟨j', hj', hne, hl, hg⟩ := erase_at hb
    have hbR := hoth _ _ hj'
    rw [u.cell, look_ne (ne_off (by simp)), look_ne (ne_off (by simp)), look_ne (ne_off (by simp)), look_ne (by cases ms[k + 1]? <;> exact ne_off (by simp [linkN])), look_ne (by
      cases prevOf ms k with
      | none => exact ne_block (fun e => hbR e.symm)
      | some p => exact ne_off (by simp [linkP]))]
    show w.cell? _ = _
    rw [h.name j' b hj']
    rw [List.getD_eq_getElem?_getD, List.getD_eq_getElem?_getD, List.getElem?_eraseIdx]
    by_cases hjk : j < k
    · rw [hl hjk, if_pos hjk]
    · rw [hg hjk, if_neg hjk]
  · -- prev
    intro j b hb
    obtain ⟨j', hj', hne, hl, hg⟩ := erase_at hb
    have hbR := hoth _ _ hj'
    have hbm : b ≠ m := fun e => hne (nodup_idx h.nodup hj' (by rw [e]; exact hk))
    rw [u.cell, look_ne (ne_off (by simp)), look_ne (ne_off (by simp)), look_ne (ne_block (fun e => hbm e.symm))]
    by_cases hq : j' = k + 1
    · -- the member behind the one that went
      subst hq
      rw [hj', look_eq (show linkN R (some b) = ⟨b, 1, none⟩ from rfl)]
      have hjk : j = k := by
        by_cases hjk : j < k
        · have := hl hjk; omega
        · have := hg hjk; omega
      subst hjk
      unfold prevOf
      by_cases h0 : j = 0
      · simp [h0]
      · rw [if_neg h0, if_neg h0, erase_get, if_pos (by omega)]
    · rw [look_ne (by
        cases hn : ms[k + 1]? with
        | none => exact ne_block (fun e => hbR e.symm)
        | some q => exact ne_block (fun e => hq (nodup_idx h.nodup hj' (by rw [hn]; exact congrArg some e)))), look_ne (by cases prevOf ms k <;> exact ne_off (by simp [linkP]))]
      show w.cell? _ = _
      rw [h.prev j' b hj']
      unfold prevOf
      by_cases hjk : j < k
      · rw [hl hjk]
        by_cases h0 : j = 0
        · simp [h0]
        · rw [if_neg h0, if_neg h0, erase_get, if_pos (by omega)]
      · have e := hg hjk
        have : j ≠ k := by omega
        rw [e, if_neg (by omega), if_neg (by omega), erase_get, if_neg (by omega), show j - 1 + 1 = j + 1 - 1 by omega]
  · -- next
    intro j b hb
    obtain ⟨j', hj', hne, hl, hg⟩ := erase_at hb
    have hbR := hoth _ _ hj'
    have hbm : b ≠ m := fun e => hne (nodup_idx h.nodup hj' (by rw [e]; exact hk))
    rw [u.cell, look_ne (ne_block (fun e => hbR e.symm)), look_ne (ne_block (fun e => hbm e.symm)), look_ne (ne_off (by simp)), look_ne (by cases ms[k + 1]? <;> exact ne_off (by simp [linkN]))]
    by_cases hp : j' + 1 = k
    · -- the member before the one that went
      have hpv : prevOf ms k = some b := by
        unfold prevOf
        rw [if_neg (by omega), ← hp]
        simpa using hj'
      rw [hpv, look_eq (show linkP R (some b) = ⟨b, 2, none⟩ from rfl)]
      have hjk : j < k := by
        by_cases hjk : j < k
        · exact hjk
        · have := hg hjk; omega
      rw [erase_get, if_neg (by have := hl hjk; omega)]
      have := hl hjk
      rw [show j + 1 + 1 = k + 1 by omega]
    · rw [look_ne (by
        cases hpv : prevOf ms k with
        | none => exact ne_off (by simp [linkP])
        | some p =>
          obtain ⟨h0, hp1⟩ := hprev p hpv
          exact ne_block (fun e => hp (by have := nodup_idx h.nodup hj' (by rw [hp1]; exact congrArg some e); omega)))]
      show w.cell? _ = _
      rw [h.next j' b hj']
      by_cases hjk : j < k
      · have e := hl hjk
        rw [e, erase_get, if_pos (by omega)]
      · have e := hg hjk
        rw [e, erase_get, if_neg (by omega)]
end Go.Proofs.Ybulkejkw.lawS6782BWhole
