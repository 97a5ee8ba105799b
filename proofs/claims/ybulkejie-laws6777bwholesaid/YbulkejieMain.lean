import Derived.Test.YbulkejieWalks
namespace Go.Proofs.Ybulkejie.lawS6777BWhole
open Go.RowKit
set_option linter.unusedVariables false
theorem info5 : (Yba.prog.info? 5).map (fun i => (i.zero, i.size, i.bytes)) = some (some (.int .u8 0), 1, 1) := by kernel_rfl
theorem size5 : (Yba.prog.info? 5).map (·.size) = some 1 := by kernel_rfl

set_option maxHeartbeats 400000 in
theorem walk_long (a0 : Option Addr) (len0 cap0 : Nat) (w : World) (h : 1048576 < len0) (hm : len0 ≤ 9223372036854775807) :
    Calls Yba.prog 3 #[.slice a0 len0 cap0] w fun e w' => e = .returned (.bool true) ∧ Below w.heap.size w w' := by
  have h' : (1048576 : Int) < (len0 : Int) := by omega
  go_enter Yba.func3, Yba.ntmps3
  go_wp2
  go_ret
  exact ⟨rfl, Below.refl _ _⟩

set_option maxHeartbeats 400000 in
theorem walk_nil (w : World) :
    Calls Yba.prog 3 #[.slice none 0 0] w fun e w' => e = .returned (.bool true) ∧ Below w.heap.size w w' := by
  have he := fun w a n c => Lib.run_eql_slice_nil (P := Yba.prog) w 22 5 a n c 0 0 Yba.underlying22
  go_enter Yba.func3, Yba.ntmps3
  go_wp2
  go_loop [4, 5] (fun t i => t = .bool true ∧ i = .int .i64 0) (fun t i => 0)
  case atStart => exact ⟨rfl, rfl⟩
  case round =>
    obtain ⟨rfl, rfl⟩ := hrel
    go_wp2_with (go_at_call 5; refine (field_none _ _ _).mono ?_; rintro e w' ⟨rfl, rfl⟩)
    go_loop [7] (fun i => i = .int .i64 0) (fun i => 0)
    case atStart => rfl
    case round =>
      subst hrel
      go_wp2
      go_ret
      exact ⟨rfl, Below.refl _ _⟩

/-- What 'copy' leaves: a new row that holds the octets; nothing old has turned. -/
theorem copied (b off len cap : Nat) (xs : List Int) (w : World) (hxl : xs.length = len) (hb : 0 < len → b < w.heap.size)
    (hcell : ∀ i, i < xs.length → w.cell? ⟨b, off + i, none⟩ = some (.int .u8 (xs.getD i 0))) :
    ∃ w2 : World, (∀ ty, (Builtin.copy_ #[22, 22] ty #[.slice (some ⟨w.heap.size, 0, none⟩) len len, .slice (some ⟨b, off, none⟩) len cap]).run Yba.prog (w.alloc (.cells (madeCells #[.int .u8 0] len) 5)) = .ok (.int .i64 (len : Int)) w2) ∧
      w2.heap[w.heap.size]? = some (.cells (xs.map (Value.int .u8)).toArray 5 (0, 0)) ∧ Below w.heap.size w w2 := by
  have hbel : Below w.heap.size w (w.alloc (.cells (madeCells #[.int .u8 0] len) 5)) := (Below.refl _ _).alloc (Nat.le_refl _) _
  have hblk : (w.alloc (.cells (madeCells #[.int .u8 0] len) 5)).heap[w.heap.size]? = some (.cells (madeCells #[.int .u8 0] len) 5 (0, 0)) := by show (w.heap.push _)[w.heap.size]? = _; simp
  have hml : (madeCells #[.int .u8 0] len).size = len := size_madeCells _ _
  have hrow := fun ty => run_copy_row (P := Yba.prog) (w.alloc (.cells (madeCells #[.int .u8 0] len) 5)) 22 22 ty 5 w.heap.size 0 len len ⟨b, off, none⟩ len cap (madeCells #[.int .u8 0] len) 5 (xs.map (Value.int .u8))
    Yba.underlying22 size5 hblk (by simp [hxl]) (by
      intro j v hj
      have hjl : j < xs.length := by
        have := (List.getElem?_eq_some_iff.1 hj).1
        simpa using this
      have := hcell j hjl
      rw [show (⟨b, off, none⟩ : Addr).add j = ⟨b, off + j, none⟩ by unfold Addr.add; split <;> simp_all]
      rw [hbel.cell (p := ⟨b, off + j, none⟩) (hb (by omega)), this]
      simpa [hjl] using hj) (by simp [hxl, hml]) (by intro v hv; obtain ⟨z, _, rfl⟩ := List.mem_map.1 hv; rfl)
  have e : (List.take 0 (madeCells #[.int .u8 0] len).toList ++ xs.map (Value.int .u8) ++ List.drop (0 + (xs.map (Value.int .u8)).length) (madeCells #[.int .u8 0] len).toList) = xs.map (Value.int .u8) := by
    simp only [List.take_zero, List.nil_append]
    rw [List.drop_eq_nil_of_le (by simp [hxl, hml]), List.append_nil]
  rw [e] at hrow
  refine ⟨(w.alloc (.cells (madeCells #[.int .u8 0] len) 5)).setRow w.heap.size (xs.map (Value.int .u8)).toArray, fun ty => by rw [hrow ty]; simp [goInt, hxl], ?_, below_setRow hbel (Nat.le_refl _) _⟩
  exact setRow_heap (w.alloc (.cells (madeCells #[.int .u8 0] len) 5)) w.heap.size _ _ 5 _ hblk

theorem cells_of_copy {w2 : World} {g : Nat} {cs : List Int} {t : TypeId} (h : w2.heap[g]? = some (.cells (cs.map (Value.int .u8)).toArray t (0, 0))) :
    ∀ i, i < cs.length → w2.cell? ⟨g, i, none⟩ = some (.int .u8 (cs.getD i 0)) := by
  intro i hi
  simp [World.cell?, h, hi]

set_option maxHeartbeats 800000 in
theorem walk_some (b off len cap : Nat) (xs : List Int) (w : World) (hm : len ≤ 1048576) (hxl : xs.length = len) (hb : 0 < len → b < w.heap.size)
    (hcell : ∀ i, i < xs.length → w.cell? ⟨b, off + i, none⟩ = some (.int .u8 (xs.getD i 0))) :
    Calls Yba.prog 3 #[.slice (some ⟨b, off, none⟩) len cap] w fun e w' => e = .returned (.bool true) ∧ Below w.heap.size w w' := by
  have he := fun w a n c => Lib.run_eql_slice_nil (P := Yba.prog) w 22 5 a n c 0 0 Yba.underlying22
  have hmk := run_make_row' (P := Yba.prog) 22 5 (.int .u8 0) 1 Yba.underlying22 info5 rfl .i64 .i64 len (by omega) (by omega)
  obtain ⟨w2, hcp, hblk, hbel⟩ := copied b off len cap xs w hxl hb hcell
  have hnew := cells_of_copy hblk
  have hold : ∀ i, i < xs.length → w2.cell? ⟨b, off + i, none⟩ = some (.int .u8 (xs.getD i 0)) := fun i hi => by
    rw [hbel.cell (p := ⟨b, off + i, none⟩) (hb (by omega))]; exact hcell i hi
  have HXL : Hid (xs.length = len) := hxl
  have Hnew : Hid (∀ i, i < xs.length → w2.cell? ⟨w.heap.size, i, none⟩ = some (.int .u8 (xs.getD i 0))) := hnew
  have Hold : Hid (∀ i, i < xs.length → w2.cell? ⟨b, off + i, none⟩ = some (.int .u8 (xs.getD i 0))) := hold
  clear hxl hnew hold hblk hcell hb
  have hlen : decide ((1048576 : Int) < (len : Int)) = false := decide_eq_false (by omega)
  go_enter Yba.func3, Yba.ntmps3
  go_wp2
  go_loop [4, 5] (fun t i => ∃ k : Nat, k ≤ len ∧ i = .int .i64 k ∧ t = .bool true ∧ allok (xs.take k) = true) (fun _ i => len - (intOf i).toNat)
  case atStart => exact ⟨0, Nat.zero_le _, rfl, rfl, rfl⟩
  case round =>
    obtain ⟨k, hk, rfl, rfl, hall⟩ := hrel
    have Hall : Hid (allok (xs.take k) = true) := hall
    clear hall
    by_cases hok : k < len ∧ okc (xs[k]?.getD 0) = true
    · obtain ⟨hlt, hok⟩ := hok
      have hxl := HXL.out
      have hc := Hnew.out k (by omega)
      have Hsucc : Hid (allok (xs.take (k + 1)) = (allok (xs.take k) && okc (xs[k]?.getD 0))) := allok_take_succ xs k (by omega)
      rw [List.getD_eq_getElem?_getD] at hc
      generalize xs[k]?.getD 0 = c at hc hok Hsucc
      clear hxl
      go_wp2_with (go_at_call 4; refine (ok_calls _ _).mono ?_; rintro e w' ⟨rfl, rfl⟩)
      go_round
      case rel => exact ⟨k + 1, by omega, by go_num, rfl, by rw [Hsucc.out, Hall.out, hok]; rfl⟩
      case measure => simp [intOf]; omega
    · have hcase : (k < len ∧ okc (xs[k]?.getD 0) = false) ∨ k = len := by
        by_cases hlt : k < len
        · left; refine ⟨hlt, ?_⟩
          cases h : okc (xs[k]?.getD 0)
          · rfl
          · exact absurd ⟨hlt, h⟩ hok
        · right; omega
      clear hok
      have hfc := field_calls b off len cap xs
      have Hfc : Hid (∀ W, len ≤ xs.length → len ≤ 1048576 → (∀ i, i < xs.length → W.cell? ⟨b, off + i, none⟩ = some (.int .u8 (xs.getD i 0))) → Calls Yba.prog 5 #[.slice (some ⟨b, off, none⟩) len cap] W fun e w' => e = .returned (.bool (allok (xs.take len))) ∧ w' = W) := hfc
      clear hfc
      rcases hcase with ⟨hlt, hok⟩ | hlt
      · have hxl := HXL.out
        have hc := Hnew.out k (by omega)
        have hend := allok_of_no xs len k hlt (by omega) hok
        rw [List.getD_eq_getElem?_getD] at hc
        generalize xs[k]?.getD 0 = c at hc hok
        clear hxl
        go_wp2_with (first | (go_at_call 4; refine (ok_calls _ _).mono ?_; rintro e w3 ⟨rfl, hw3⟩; have hw4 := hw3.symm; clear hw3; subst hw4) | (go_at_call 5; refine (Hfc.out _ (by rw [HXL.out]; exact Nat.le_refl _) hm Hold.out).mono ?_; rintro e w3 ⟨rfl, hw3⟩; have hw4 := hw3.symm; clear hw3; subst hw4))
        go_loopw [7] (fun i wr => ∃ j nq : Nat, j ≤ len ∧ i = .int .i64 j ∧ wr = w2.drewN nq) (fun i _ => len - (intOf i).toNat)
        case atStart => exact ⟨0, 0, Nat.zero_le _, rfl, rfl⟩
        case round =>
          obtain ⟨j, nq, hj, rfl, rfl⟩ := hrel
          by_cases hlt2 : j < len
          · have c1 := Hnew.out j (by rw [HXL.out]; exact hlt2)
            have c2 := Hold.out j (by rw [HXL.out]; exact hlt2)
            rw [List.getD_eq_getElem?_getD] at c1 c2
            generalize xs[j]?.getD 0 = d at c1 c2
            have hi : (j : Int) < (len : Int) := by omega
            go_wp2
            go_quiet (fail)
            go_wp2
            go_roundw
            case rel => exact ⟨j + 1, _, by omega, by go_num, rfl⟩
            case measure => simp [intOf]; omega
          · go_wp2
            go_ret
            exact ⟨rfl, below_drewN hbel _⟩
      · have hend := Hall.out
        subst hlt
        go_wp2_with (first | (go_at_call 4; refine (ok_calls _ _).mono ?_; rintro e w3 ⟨rfl, hw3⟩; have hw4 := hw3.symm; clear hw3; subst hw4) | (go_at_call 5; refine (Hfc.out _ (by rw [HXL.out]; exact Nat.le_refl _) hm Hold.out).mono ?_; rintro e w3 ⟨rfl, hw3⟩; have hw4 := hw3.symm; clear hw3; subst hw4))
        go_loopw [7] (fun i wr => ∃ j nq : Nat, j ≤ k ∧ i = .int .i64 j ∧ wr = w2.drewN nq) (fun i _ => k - (intOf i).toNat)
        case atStart => exact ⟨0, 0, Nat.zero_le _, rfl, rfl⟩
        case round =>
          obtain ⟨j, nq, hj, rfl, rfl⟩ := hrel
          by_cases hlt2 : j < k
          · have c1 := Hnew.out j (by rw [HXL.out]; exact hlt2)
            have c2 := Hold.out j (by rw [HXL.out]; exact hlt2)
            rw [List.getD_eq_getElem?_getD] at c1 c2
            generalize xs[j]?.getD 0 = d at c1 c2
            have hi : (j : Int) < (k : Int) := by omega
            go_wp2
            go_quiet (fail)
            go_wp2
            go_roundw
            case rel => exact ⟨j + 1, _, by omega, by go_num, rfl⟩
            case measure => simp [intOf]; omega
          · go_wp2
            go_ret
            exact ⟨rfl, below_drewN hbel _⟩

set_option maxHeartbeats 400000 in
/-- A slice of no octets that is not nil, wherever it leads. -/
theorem walk_empty (x : Addr) (cap : Nat) (w : World) :
    Calls Yba.prog 3 #[.slice (some x) 0 cap] w fun e w' => e = .returned (.bool true) ∧ Below w.heap.size w w' := by
  have he := fun w a n c => Lib.run_eql_slice_nil (P := Yba.prog) w 22 5 a n c 0 0 Yba.underlying22
  have hmk := run_make_row' (P := Yba.prog) 22 5 (.int .u8 0) 1 Yba.underlying22 info5 rfl .i64 .i64 0 (by omega) (by omega)
  have hcp := fun w ty d => run_copy_none (P := Yba.prog) w 22 22 ty 5 d (some x) 0 0 0 cap Yba.underlying22 size5 rfl
  simp only [goInt] at hcp
  simp only [show ((0 : Nat) : Int) = 0 from rfl] at hmk
  go_enter Yba.func3, Yba.ntmps3
  go_wp2
  go_loop [4, 5] (fun t i => t = .bool true ∧ i = .int .i64 0) (fun t i => 0)
  case atStart => exact ⟨rfl, rfl⟩
  case round =>
    obtain ⟨rfl, rfl⟩ := hrel
    go_wp2_with (go_at_call 5; refine (field_none _ _ _).mono ?_; rintro e w' ⟨rfl, rfl⟩)
    go_loop [7] (fun i => i = .int .i64 0) (fun i => 0)
    case atStart => rfl
    case round =>
      subst hrel
      go_wp2
      go_ret
      exact ⟨rfl, (Below.refl _ _).alloc (Nat.le_refl _) _⟩
end Go.Proofs.Ybulkejie.lawS6777BWhole
