import Derived.Test.YbulkejkwBRow
namespace Go.Proofs.Ybulkejkw.lawS6782BWhole
open Go.RowKit
set_option linter.unusedVariables false

/-- All that the law's first loop keeps: the roll in block N, the model in N + 1, the names in N + 2. -/
structure AllI (N C : Nat) (w0 : World) (ms : List Nat) (ns : List ByteArray) (rs : List Nat) (rn : List ByteArray) (w : World) : Prop where
  sz : N + 3 ≤ w.heap.size
  below : Below N w0 w
  fz : ∀ b i, N ≤ b → w.frozen? ⟨b, i, none⟩ = false
  roll : RollI N ms ns w
  flag : ∀ b ∈ ms, w.cell? ⟨b, 3, none⟩ = some (.bool false)
  model : RowI (N + 1) C (rs.map mval) w
  names : RowI (N + 2) C (rn.map Value.string) w

variable {N C : Nat} {w0 w w' : World} {ms rs : List Nat} {ns rn : List ByteArray}

theorem frozen_alloc_cells (w : World) (c : Array Value) (t : TypeId) (b i : Nat) (h : w.frozen? ⟨b, i, none⟩ = false) : (w.alloc (.cells c t)).frozen? ⟨b, i, none⟩ = false := by
  by_cases hb : b = w.heap.size
  · exact World.frozen?_alloc_at c t b i hb
  · rw [World.frozen?_alloc_old _ _ _ hb]
    exact h

theorem AllI.alloc (h : AllI N C w0 ms ns rs rn w) (c : Array Value) (t : TypeId) : AllI N C w0 ms ns rs rn (w.alloc (.cells c t)) := by
  have hs : (w.alloc (.cells c t)).heap.size = w.heap.size + 1 := World.size_alloc _ _
  have hc : ∀ b i, b < w.heap.size → (w.alloc (.cells c t)).cell? ⟨b, i, none⟩ = w.cell? ⟨b, i, none⟩ := fun b i hb => World.cell?_alloc_past _ _ _ hb
  have hz := h.sz
  refine ⟨by omega, h.below.alloc (by omega) _, fun b i hb => frozen_alloc_cells w c t b i (h.fz b i hb), h.roll.same (by omega) (fun b i hb => hc b i ?_), fun b hb => ?_, h.model.same (fun i => hc _ i (by omega)), h.names.same (fun i => hc _ i (by omega))⟩
  · rcases hb with rfl | hb
    · omega
    · exact h.roll.lt b hb
  · rw [hc b 3 (h.roll.lt b hb)]
    exact h.flag b hb

theorem AllI.drewN (h : AllI N C w0 ms ns rs rn w) (q : Nat) : AllI N C w0 ms ns rs rn (w.drewN q) :=
  ⟨h.sz, below_drewN h.below q, h.fz, h.roll.same (Nat.le_refl _) (fun _ _ _ => rfl), h.flag, h.model.same (fun _ => rfl), h.names.same (fun _ => rfl)⟩

theorem look_other {L : List (Addr × Value)} {b : Addr} {d : Option Value} (h : ∀ p ∈ L, p.1 ≠ b) : look L b d = d := by
  induction L with
  | nil => rfl
  | cons p r ih =>
    obtain ⟨a, v⟩ := p
    rw [look_ne (h (a, v) (by simp))]
    exact ih (fun p hp => h p (by simp [hp]))

/-- 'push' of a new member. -/
theorem push_said (h : AllI N C w0 ms ns rs rn w) (nm : ByteArray) (lf : Bool) :
    Calls Yba.prog 20 #[.pointer (some ⟨N, 0, none⟩), .pointer (some ⟨w.heap.size, 0, none⟩)] (w.alloc (.cells #[.string nm, .pointer none, .pointer none, .bool lf] 73)) fun e w' =>
      e = .returned (.tuple #[]) ∧ w'.heap.size = w.heap.size + 1 ∧ Below N w0 w' ∧ (∀ b i, N ≤ b → w'.frozen? ⟨b, i, none⟩ = false) ∧ RollI N (ms ++ [w.heap.size]) (ns ++ [nm]) w' ∧
        (∀ b ∈ ms, w'.cell? ⟨b, 3, none⟩ = some (.bool false)) ∧ w'.cell? ⟨w.heap.size, 3, none⟩ = some (.bool lf) ∧ RowI (N + 1) C (rs.map mval) w' ∧ RowI (N + 2) C (rn.map Value.string) w' ∧
        (∀ b i, b ≠ N → b ≠ w.heap.size → b ∉ ms → w'.cell? ⟨b, i, none⟩ = (w.alloc (.cells #[.string nm, .pointer none, .pointer none, .bool lf] 73)).cell? ⟨b, i, none⟩) ∧
        ∃ n, (w.alloc (.cells #[.string nm, .pointer none, .pointer none, .bool lf] 73)).cell? ⟨N, 2, none⟩ = some (.int .i64 n) ∧ w'.cell? ⟨N, 2, none⟩ = some (.int .i64 (wrap64 (n + 1))) := by
  have h2 := h.alloc #[.string nm, .pointer none, .pointer none, .bool lf] 73
  have hs : (w.alloc (.cells #[.string nm, .pointer none, .pointer none, .bool lf] 73)).heap.size = w.heap.size + 1 := World.size_alloc _ _
  have cm : ∀ i, (w.alloc (.cells #[.string nm, .pointer none, .pointer none, .bool lf] 73)).cell? ⟨w.heap.size, i, none⟩ = (#[.string nm, .pointer none, .pointer none, .bool lf] : Array Value)[i]? := fun i => World.cell?_alloc_mark _ _ _ _ _
  have hz := h.sz
  have hnew : w.heap.size ∉ ms := fun hm => Nat.lt_irrefl _ (h.roll.lt _ hm)
  generalize w.alloc (.cells #[.string nm, .pointer none, .pointer none, .bool lf] 73) = w2 at h2 hs cm
  obtain ⟨n, hn⟩ := h2.roll.num
  have hlast : ∀ l, ms[ms.length - 1]? = some l → N ≤ l ∧ l ≠ w.heap.size ∧ l ≠ N := fun l hl => by
    have hm := List.mem_of_getElem? hl
    have h1 := h.roll.big l hm
    have h3 := h.roll.lt l hm
    omega
  refine (push_calls N w.heap.size ms[ms.length - 1]? n w2 N (Nat.le_refl N) (by omega) (by omega) hlast ?_ (by rw [cm]; rfl) h2.roll.last hn h2.fz).mono ?_
  · cases hl : ms[ms.length - 1]? with
    | none => show (w2.cell? ⟨N, 0, none⟩).isSome = true; rw [h2.roll.first]; rfl
    | some l => show (w2.cell? ⟨l, 2, none⟩).isSome = true; rw [h2.roll.next _ l hl]; rfl
  · rintro e w3 ⟨rfl, u⟩
    have hoff : ∀ b i, (b ≠ N ∧ b ≠ w.heap.size ∧ b ∉ ms) ∨ i = 3 → w3.cell? ⟨b, i, none⟩ = w2.cell? ⟨b, i, none⟩ := fun b i hbi => by
      rw [u.cell]
      refine look_other fun p hp => ?_
      simp only [List.mem_cons, List.not_mem_nil, or_false] at hp
      rcases hbi with ⟨h1, h2', h3⟩ | rfl
      · rcases hp with rfl | rfl | rfl | rfl
        · exact ne_block (fun e => h1 e.symm)
        · exact ne_block (fun e => h1 e.symm)
        · cases hl : ms[ms.length - 1]? with
          | none => exact ne_block (fun e => h1 e.symm)
          | some l => exact ne_block (fun e => h3 (by have := List.mem_of_getElem? hl; simp only [linkL] at e; rw [← e]; exact this))
        · exact ne_block (fun e => h2' e.symm)
      · rcases hp with rfl | rfl | rfl | rfl
        · exact ne_off (by simp)
        · exact ne_off (by simp)
        · cases hl : ms[ms.length - 1]? <;> exact ne_off (by simp [linkL])
        · exact ne_off (by simp)
    have hnm : ∀ b, b < N + 3 → b ∉ ms := fun b hb hm => by have := h.roll.big b hm; omega
    refine ⟨rfl, by rw [u.size, hs], h2.below.trans u.below, fun b i hb => by rw [u.frozen]; exact h2.fz b i hb, h2.roll.push (by omega) (by omega) hnew (by rw [cm]; rfl) (by rw [cm]; rfl) u, ?_, ?_, ?_, ?_, fun b i h1 h2 h3 => hoff b i (.inl ⟨h1, h2, h3⟩), n, hn, by rw [u.cell, look_eq rfl]⟩
    · intro b hb
      rw [hoff b 3 (.inr rfl)]
      exact h2.flag b hb
    · rw [hoff _ 3 (.inr rfl), cm]; rfl
    · exact h2.model.same (fun i => hoff _ i (.inl ⟨by omega, by omega, hnm _ (by omega)⟩))
    · exact h2.names.same (fun i => hoff _ i (.inl ⟨by omega, by omega, hnm _ (by omega)⟩))

/-- 'remove' of the k-th member. -/
theorem remove_said (h : AllI N C w0 ms ns rs rn w) {k m : Nat} (hk : ms[k]? = some m) :
    Calls Yba.prog 17 #[.pointer (some ⟨N, 0, none⟩), .pointer (some ⟨m, 0, none⟩)] w fun e w' => e = .returned (.tuple #[]) ∧ AllI N C w0 (ms.eraseIdx k) (ns.eraseIdx k) rs rn w' := by
  have hz := h.sz
  obtain ⟨n, hn⟩ := h.roll.num
  have hmm := List.mem_of_getElem? hk
  have hmb := h.roll.big m hmm
  have hpv : ∀ p, prevOf ms k = some p → ∃ j, ms[j]? = some p ∧ j + 1 = k := fun p hp => by
    unfold prevOf at hp
    split at hp
    · cases hp
    · exact ⟨k - 1, hp, by omega⟩
  refine (remove_calls N m (prevOf ms k) ms[k + 1]? n w N (Nat.le_refl N) (by omega) (by omega) ?_ ?_ ?_ ?_ ?_ hn (h.roll.prev k m hk) (h.roll.next k m hk) h.fz).mono ?_
  · intro p hp
    obtain ⟨j, hj, hjk⟩ := hpv p hp
    have := h.roll.big p (List.mem_of_getElem? hj)
    exact ⟨by omega, fun e => by have := nodup_idx h.roll.nodup hj (by rw [e]; exact hk); omega, by omega⟩
  · intro q hq
    have := h.roll.big q (List.mem_of_getElem? hq)
    exact ⟨by omega, fun e => by have := nodup_idx h.roll.nodup hq (by rw [e]; exact hk); omega, by omega⟩
  · intro p q hp hq e
    obtain ⟨j, hj, hjk⟩ := hpv p hp
    have := nodup_idx h.roll.nodup hj (by rw [e]; exact hq)
    omega
  · cases hp : prevOf ms k with
    | none => show (w.cell? ⟨N, 0, none⟩).isSome = true; rw [h.roll.first]; rfl
    | some p =>
      obtain ⟨j, hj, _⟩ := hpv p hp
      show (w.cell? ⟨p, 2, none⟩).isSome = true; rw [h.roll.next j p hj]; rfl
  · cases hq : ms[k + 1]? with
    | none => show (w.cell? ⟨N, 1, none⟩).isSome = true; rw [h.roll.last]; rfl
    | some q => show (w.cell? ⟨q, 1, none⟩).isSome = true; rw [h.roll.prev _ q hq]; rfl
  · rintro e w3 ⟨rfl, u⟩
    have hoff : ∀ b i, (b ≠ N ∧ b ∉ ms) ∨ i = 3 → w3.cell? ⟨b, i, none⟩ = w.cell? ⟨b, i, none⟩ := fun b i hbi => by
      rw [u.cell]
      refine look_other fun p hp => ?_
      simp only [List.mem_cons, List.not_mem_nil, or_false] at hp
      rcases hbi with ⟨h1, h3⟩ | rfl
      · rcases hp with rfl | rfl | rfl | rfl | rfl
        · exact ne_block (fun e => h1 e.symm)
        · exact ne_block (fun e => h3 (by have e' : m = b := e; rw [← e']; exact hmm))
        · exact ne_block (fun e => h3 (by have e' : m = b := e; rw [← e']; exact hmm))
        · cases hq : ms[k + 1]? with
          | none => exact ne_block (fun e => h1 e.symm)
          | some q => exact ne_block (fun e => h3 (by have := List.mem_of_getElem? hq; simp only [linkN] at e; rw [← e]; exact this))
        · cases hp : prevOf ms k with
          | none => exact ne_block (fun e => h1 e.symm)
          | some p =>
            obtain ⟨j, hj, _⟩ := hpv p hp
            exact ne_block (fun e => h3 (by have := List.mem_of_getElem? hj; simp only [linkP] at e; rw [← e]; exact this))
      · rcases hp with rfl | rfl | rfl | rfl | rfl
        · exact ne_off (by simp)
        · exact ne_off (by simp)
        · exact ne_off (by simp)
        · cases hq : ms[k + 1]? <;> exact ne_off (by simp [linkN])
        · cases hp : prevOf ms k <;> exact ne_off (by simp [linkP])
    have hnm : ∀ b, b < N + 3 → b ∉ ms := fun b hb hm => by have := h.roll.big b hm; omega
    refine ⟨rfl, by rw [u.size]; exact hz, h.below.trans u.below, fun b i hb => by rw [u.frozen]; exact h.fz b i hb, h.roll.remove hk u, ?_, ?_, ?_⟩
    · intro b hb
      rw [hoff b 3 (.inr rfl)]
      exact h.flag b (List.mem_of_mem_eraseIdx hb)
    · exact h.model.same (fun i => hoff _ i (.inl ⟨by omega, hnm _ (by omega)⟩))
    · exact h.names.same (fun i => hoff _ i (.inl ⟨by omega, hnm _ (by omega)⟩))

/-- A block of the law's own beside the roll is written. -/
theorem AllI.only1 (h : AllI N C w0 ms ns rs rn w) (o : Only (N + 1) w w') {rs' : List Nat} (hr : RowI (N + 1) C (rs'.map mval) w') : AllI N C w0 ms ns rs' rn w' := by
  have hb : ∀ b ∈ ms, b ≠ N + 1 := fun b hb => by have := h.roll.big b hb; omega
  refine ⟨by rw [o.size]; exact h.sz, h.below.trans (o.below N (by omega)), fun b i hb => by rw [o.frozen]; exact h.fz b i hb, h.roll.same (by rw [o.size]; exact Nat.le_refl _) (fun b i hbi => o.cell b i ?_), fun b hbm => by rw [o.cell b 3 (hb b hbm)]; exact h.flag b hbm, hr, h.names.same (fun i => o.cell _ i (by omega))⟩
  rcases hbi with rfl | hbi
  · omega
  · exact hb b hbi
theorem AllI.only2 (h : AllI N C w0 ms ns rs rn w) (o : Only (N + 2) w w') {rn' : List ByteArray} (hr : RowI (N + 2) C (rn'.map Value.string) w') : AllI N C w0 ms ns rs rn' w' := by
  have hb : ∀ b ∈ ms, b ≠ N + 2 := fun b hb => by have := h.roll.big b hb; omega
  refine ⟨by rw [o.size]; exact h.sz, h.below.trans (o.below N (by omega)), fun b i hb => by rw [o.frozen]; exact h.fz b i hb, h.roll.same (by rw [o.size]; exact Nat.le_refl _) (fun b i hbi => o.cell b i ?_), fun b hbm => by rw [o.cell b 3 (hb b hbm)]; exact h.flag b hbm, h.model.same (fun i => o.cell _ i (by omega)), hr⟩
  rcases hbi with rfl | hbi
  · omega
  · exact hb b hbi

theorem del1_said (h : AllI N C w0 ms ns rs rn w) {k : Nat} (hk : k < rs.length) (hC : C ≤ 65536) :
    Calls Yba.prog 18 #[.slice (some ⟨N + 1, 0, none⟩) rs.length C, .int .i64 k, .int .i64 ((k + 1 : Nat) : Int)] w fun e w' => e = .returned (.slice (some ⟨N + 1, 0, none⟩) (rs.eraseIdx k).length C) ∧ AllI N C w0 ms ns (rs.eraseIdx k) rn w' :=
  (delete_model (N + 1) C k rs w hk hC h.model (fun i => h.fz _ i (by omega))).mono (by
    rintro e w' ⟨rfl, hr, o⟩
    exact ⟨rfl, h.only1 o hr⟩)
theorem del2_said (h : AllI N C w0 ms ns rs rn w) {k : Nat} (hk : k < rn.length) (hC : C ≤ 65536) :
    Calls Yba.prog 19 #[.slice (some ⟨N + 2, 0, none⟩) rn.length C, .int .i64 k, .int .i64 ((k + 1 : Nat) : Int)] w fun e w' => e = .returned (.slice (some ⟨N + 2, 0, none⟩) (rn.eraseIdx k).length C) ∧ AllI N C w0 ms ns rs (rn.eraseIdx k) w' :=
  (delete_names (N + 2) C k rn w hk hC h.names (fun i => h.fz _ i (by omega))).mono (by
    rintro e w' ⟨rfl, hr, o⟩
    exact ⟨rfl, h.only2 o hr⟩)

/-- 'append(model, mm)' where there is room: the new array of one element lies in the last block. -/
theorem app1_said (h : AllI N C w0 ms ns rs rn w) (hlt : rs.length < C) (m : Nat) :
    ∃ w', (∀ ty, (Builtin.append_ #[65, 65] ty #[.slice (some ⟨N + 1, 0, none⟩) rs.length C, .slice (some ⟨w.heap.size, 0, none⟩) 1 1]).run Yba.prog (w.alloc (.cells #[.pointer (some ⟨m, 0, none⟩)] 62)) = .ok (.slice (some ⟨N + 1, 0, none⟩) (rs.length + 1) C) w') ∧
      AllI N C w0 ms ns (rs ++ [m]) rn w' ∧ ∀ b i, b < w.heap.size → b ≠ N + 1 → w'.cell? ⟨b, i, none⟩ = w.cell? ⟨b, i, none⟩ := by
  obtain ⟨i0, hi0, hz1⟩ := Option.map_eq_some_iff.1 size62
  have h2 := h.alloc #[.pointer (some ⟨m, 0, none⟩)] 62
  have cm : (w.alloc (.cells #[.pointer (some ⟨m, 0, none⟩)] 62)).cell? ⟨w.heap.size, 0, none⟩ = some (.pointer (some ⟨m, 0, none⟩)) := by rw [World.cell?_alloc_mark]; rfl
  have hz := h.sz
  have ho : ∀ b i, b < w.heap.size → (w.alloc (.cells #[.pointer (some ⟨m, 0, none⟩)] 62)).cell? ⟨b, i, none⟩ = w.cell? ⟨b, i, none⟩ := fun b i hb => World.cell?_alloc_past _ _ _ hb
  generalize w.alloc (.cells #[.pointer (some ⟨m, 0, none⟩)] 62) = w2 at h2 cm ho
  have hrow := h2.model.append (by simpa using hlt) (mval m)
  rw [List.length_map] at hrow
  have hrun := fun ty => run_append_room_cells (P := Yba.prog) w2 65 ty 62 i0 Yba.underlying65 hi0 (N + 1) 0 rs.length C ⟨w.heap.size, 0, none⟩ 1 1 [.pointer (some ⟨m, 0, none⟩)] (by simp [hz1])
    (by
      intro j u hj
      have hj0 : j = 0 := by have := (List.getElem?_eq_some_iff.1 hj).1; simp at this; omega
      subst hj0
      simp at hj
      subst hj
      simpa [Addr.add] using cm) (by simp [Value.oneCell']) (by omega) (by
      intro j hj
      have hj0 : j = 0 := by simp at hj; omega
      subst hj0
      rw [hz1]
      simpa using h2.model.room rs.length hlt) (fun j _ => h2.fz _ _ (by omega))
  rw [hz1] at hrun
  refine ⟨_, hrun, ?_⟩
  have e : w2.setCells (N + 1) (0 + rs.length * 1) [.pointer (some ⟨m, 0, none⟩)] = w2.setCell ⟨N + 1, rs.length, none⟩ (mval m) := by
    simp [World.setCells, mval, at0]
  rw [e]
  refine ⟨?_, fun b i hb hne => by rw [(only_setCell w2 (N + 1) rs.length (mval m)).cell b i hne]; exact ho b i hb⟩
  refine h2.only1 (only_setCell w2 (N + 1) rs.length (mval m)) ?_
  rw [List.map_append]
  exact hrow

/-- 'append(names, name)' likewise. -/
theorem app2_said (h : AllI N C w0 ms ns rs rn w) (hlt : rn.length < C) (nm : ByteArray) :
    ∃ w', (∀ ty, (Builtin.append_ #[54, 54] ty #[.slice (some ⟨N + 2, 0, none⟩) rn.length C, .slice (some ⟨w.heap.size, 0, none⟩) 1 1]).run Yba.prog (w.alloc (.cells #[.string nm] 9)) = .ok (.slice (some ⟨N + 2, 0, none⟩) (rn.length + 1) C) w') ∧
      AllI N C w0 ms ns rs (rn ++ [nm]) w' ∧ ∀ b i, b < w.heap.size → b ≠ N + 2 → w'.cell? ⟨b, i, none⟩ = w.cell? ⟨b, i, none⟩ := by
  obtain ⟨i0, hi0, hz1⟩ := Option.map_eq_some_iff.1 size9
  have h2 := h.alloc #[.string nm] 9
  have cm : (w.alloc (.cells #[.string nm] 9)).cell? ⟨w.heap.size, 0, none⟩ = some (.string nm) := by rw [World.cell?_alloc_mark]; rfl
  have hz := h.sz
  have ho : ∀ b i, b < w.heap.size → (w.alloc (.cells #[.string nm] 9)).cell? ⟨b, i, none⟩ = w.cell? ⟨b, i, none⟩ := fun b i hb => World.cell?_alloc_past _ _ _ hb
  generalize w.alloc (.cells #[.string nm] 9) = w2 at h2 cm ho
  have hrow := h2.names.append (by simpa using hlt) (.string nm)
  rw [List.length_map] at hrow
  have hrun := fun ty => run_append_room_cells (P := Yba.prog) w2 54 ty 9 i0 Yba.underlying54 hi0 (N + 2) 0 rn.length C ⟨w.heap.size, 0, none⟩ 1 1 [.string nm] (by simp [hz1])
    (by
      intro j u hj
      have hj0 : j = 0 := by have := (List.getElem?_eq_some_iff.1 hj).1; simp at this; omega
      subst hj0
      simp at hj
      subst hj
      simpa [Addr.add] using cm) (by simp [Value.oneCell']) (by omega) (by
      intro j hj
      have hj0 : j = 0 := by simp at hj; omega
      subst hj0
      rw [hz1]
      simpa using h2.names.room rn.length hlt) (fun j _ => h2.fz _ _ (by omega))
  rw [hz1] at hrun
  refine ⟨_, hrun, ?_⟩
  have e : w2.setCells (N + 2) (0 + rn.length * 1) [.string nm] = w2.setCell ⟨N + 2, rn.length, none⟩ (.string nm) := by
    simp [World.setCells]
  rw [e]
  refine ⟨?_, fun b i hb hne => by rw [(only_setCell w2 (N + 2) rn.length (.string nm)).cell b i hne]; exact ho b i hb⟩
  refine h2.only2 (only_setCell w2 (N + 2) rn.length (.string nm)) ?_
  rw [List.map_append]
  exact hrow

theorem made_cell (z : Value) (n j : Nat) (hj : j < n) : (madeCells #[z] n)[j]? = some z := by
  have h := toList_madeCells_one z n
  rw [← Array.getElem?_toList, h]
  simp [hj]

/-- What the law lays first: an empty roll, an empty model, no names. -/
theorem all_start (w : World) (C : Nat) (fz : ∀ b i, w.heap.size ≤ b → w.frozen? ⟨b, i, none⟩ = false) :
    AllI w.heap.size C w [] [] [] [] (((w.alloc (.cells #[.pointer none, .pointer none, .int .i64 0] 64)).alloc (.cells (madeCells #[.pointer none] C) 62)).alloc (.cells (madeCells #[.string ByteArray.empty] C) 9)) := by
  have s1 : (w.alloc (.cells #[.pointer none, .pointer none, .int .i64 0] 64)).heap.size = w.heap.size + 1 := World.size_alloc _ _
  have c1 : ∀ i, (w.alloc (.cells #[.pointer none, .pointer none, .int .i64 0] 64)).cell? ⟨w.heap.size, i, none⟩ = (#[.pointer none, .pointer none, .int .i64 0] : Array Value)[i]? := fun i => World.cell?_alloc_mark _ _ _ _ _
  have f1 := fun b i (hb : w.heap.size ≤ b) => frozen_alloc_cells w #[.pointer none, .pointer none, .int .i64 0] 64 b i (fz b i hb)
  have b1 : Below w.heap.size w (w.alloc (.cells #[.pointer none, .pointer none, .int .i64 0] 64)) := (Below.refl _ _).alloc (Nat.le_refl _) _
  generalize w.alloc (.cells #[.pointer none, .pointer none, .int .i64 0] 64) = w1 at s1 c1 f1 b1
  have s2 : (w1.alloc (.cells (madeCells #[.pointer none] C) 62)).heap.size = w1.heap.size + 1 := World.size_alloc _ _
  have c2 : ∀ i, (w1.alloc (.cells (madeCells #[.pointer none] C) 62)).cell? ⟨w1.heap.size, i, none⟩ = (madeCells #[.pointer none] C)[i]? := fun i => World.cell?_alloc_mark _ _ _ _ _
  have o2 : ∀ b i, b < w1.heap.size → (w1.alloc (.cells (madeCells #[.pointer none] C) 62)).cell? ⟨b, i, none⟩ = w1.cell? ⟨b, i, none⟩ := fun b i hb => World.cell?_alloc_past _ _ _ hb
  have f2 := fun b i (hb : w.heap.size ≤ b) => frozen_alloc_cells w1 (madeCells #[.pointer none] C) 62 b i (f1 b i hb)
  have b2 : Below w.heap.size w (w1.alloc (.cells (madeCells #[.pointer none] C) 62)) := b1.alloc (by omega) _
  generalize w1.alloc (.cells (madeCells #[.pointer none] C) 62) = w2 at s2 c2 o2 f2 b2
  have s3 : (w2.alloc (.cells (madeCells #[.string ByteArray.empty] C) 9)).heap.size = w2.heap.size + 1 := World.size_alloc _ _
  have c3 : ∀ i, (w2.alloc (.cells (madeCells #[.string ByteArray.empty] C) 9)).cell? ⟨w2.heap.size, i, none⟩ = (madeCells #[.string ByteArray.empty] C)[i]? := fun i => World.cell?_alloc_mark _ _ _ _ _
  have o3 : ∀ b i, b < w2.heap.size → (w2.alloc (.cells (madeCells #[.string ByteArray.empty] C) 9)).cell? ⟨b, i, none⟩ = w2.cell? ⟨b, i, none⟩ := fun b i hb => World.cell?_alloc_past _ _ _ hb
  have f3 := fun b i (hb : w.heap.size ≤ b) => frozen_alloc_cells w2 (madeCells #[.string ByteArray.empty] C) 9 b i (f2 b i hb)
  have b3 : Below w.heap.size w (w2.alloc (.cells (madeCells #[.string ByteArray.empty] C) 9)) := b2.alloc (by omega) _
  generalize w2.alloc (.cells (madeCells #[.string ByteArray.empty] C) 9) = w3 at s3 c3 o3 f3 b3
  have cr : ∀ i, w3.cell? ⟨w.heap.size, i, none⟩ = (#[.pointer none, .pointer none, .int .i64 0] : Array Value)[i]? := fun i => by rw [o3 _ _ (by omega), o2 _ _ (by omega), c1]
  refine ⟨by omega, b3, f3, ⟨rfl, List.nodup_nil, by simp, by simp, by rw [cr]; rfl, by rw [cr]; rfl, ⟨0, by rw [cr]; rfl⟩, by simp, by simp, by simp⟩, by simp, ⟨by simp, by simp, fun j hj => ?_⟩, ⟨by simp, by simp, fun j hj => ?_⟩⟩
  · rw [show w.heap.size + 1 = w1.heap.size by omega, o3 _ _ (by omega), c2, made_cell _ _ _ hj]; rfl
  · rw [show w.heap.size + 2 = w2.heap.size by omega, c3, made_cell _ _ _ hj]; rfl
end Go.Proofs.Ybulkejkw.lawS6782BWhole
