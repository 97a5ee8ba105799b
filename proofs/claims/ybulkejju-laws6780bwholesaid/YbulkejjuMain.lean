import Derived.Test.YbulkejjuHalf
import Derived.Test.YbulkejjuPair
namespace Go.Proofs.Ybulkejju.lawS6780BWhole
open Go.RowKit Go.Proofs.Ybulkejju.Plain
set_option linter.unusedVariables false

theorem halfR_no (l : List UInt8) (p h x q : Nat) (hx : halfR l p h = (x, q, false)) : x = 0 := by
  by_cases hh : h < 15
  · rw [halfR_small l p h hh] at hx; simp at hx
  · rw [uvR_half l p h hh] at hx
    split at hx
    · simp at hx; exact hx.1.symm
    · split at hx
      · simp at hx; exact hx.1.symm
      · simp at hx

/-- The model's half at a known answer. -/
def ModelSaid (g n c : Nat) (p h x q : Nat) (ok : Bool) (W : World) : Prop :=
  Calls Yba.prog 5 #[.slice (some ⟨g, 0, none⟩) n c, .int .i64 p, .int .u8 h] W fun e w' => e = .returned (.tuple #[.int .u64 x, .int .i64 q, .bool ok]) ∧ w' = W
theorem model_said (g n c : Nat) (l : List UInt8) (p h x q : Nat) (ok : Bool) (W : World) (hl : l.length = n) (hn : n ≤ 1048576) (hp : p ≤ n)
    (hcell : ∀ j, j < n → W.cell? ⟨g, j, none⟩ = some (.int .u8 (l.getD j 0).toNat)) (hx : halfR l p h = (x, q, ok)) : ModelSaid g n c p h x q ok W := by
  unfold ModelSaid
  by_cases hh : h < 15
  · have := model_small (.slice (some ⟨g, 0, none⟩) n c) l p h W hh
    rw [hx] at this
    exact this
  · have := model_escape g 0 n c l p h W hh hl hn hp (fun j hj => by rw [Nat.zero_add]; exact hcell j hj)
    rw [hx] at this
    exact this

set_option maxHeartbeats 400000 in
theorem walk_long (a0 : Option Addr) (len0 cap0 : Nat) (a1 : Int) (w : World) (h : 1048576 < len0) (hm : len0 ≤ 9223372036854775807) :
    Calls Yba.prog 3 #[.slice a0 len0 cap0, .int .u64 a1] w fun e w' => e = .returned (.bool true) ∧ Below w.heap.size w w' := by
  have h' : (1048576 : Int) < (len0 : Int) := by omega
  go_enter Yba.func3, Yba.ntmps3
  go_wp2
  go_ret
  exact ⟨rfl, Below.refl _ _⟩

theorem byte_getD (xs : List Int) (j : Nat) (h0 : 0 ≤ xs.getD j 0) (h1 : xs.getD j 0 < 256) : ((Lib.bytesOf xs).getD j 0).toNat = xs.getD j 0 := by
  unfold Lib.bytesOf
  rw [List.getD_eq_getElem?_getD, List.getElem?_map] 
  rw [List.getD_eq_getElem?_getD] at h0 h1 ⊢
  cases hx : xs[j]? with
  | none => simp
  | some z =>
    rw [hx] at h0 h1
    simp only [Option.map_some, Option.getD_some] at h0 h1 ⊢
    rw [UInt8.toNat_ofNat']
    omega

/-- What 'bytes.Clone' leaves: a row of its own with the same bytes. -/
theorem cloned (b o len cap : Nat) (xs : List Int) (w : World) (hpos : 0 < len) (hm : len ≤ 1048576) (hxl : xs.length = len)
    (hcell : ∀ i, i < len → w.cell? ⟨b, o + i, none⟩ = some (.int .u8 (xs.getD i 0))) :
    Calls Yba.prog 4 #[.slice (some ⟨b, o, none⟩) len cap] w fun e w' => ∃ g c', e = .returned (.slice (some ⟨g, 0, none⟩) len c') ∧ w.heap.size ≤ g ∧ g < w'.heap.size ∧ (∀ j, j < len → w'.cell? ⟨g, j, none⟩ = some (.int .u8 (xs.getD j 0))) ∧ Below w.heap.size w w' := by
  refine (Yba.bytes_Clone_at ⟨b, o, none⟩ len cap xs w hxl (by omega) (fun i hi => by rw [WideShapes.add_plain]; exact hcell i hi)).mono ?_
  rintro e w' ⟨v', rfl, hown, hne, hb⟩
  obtain ⟨hlen, hx | ⟨g, cap', cur, rfl, hg, hblk, hn, hmx, hsz, htake⟩⟩ := hown
  · omega
  · have hown : w'.ownsRow w.heap.size 5 1 (.slice (some ⟨g, 0, none⟩) len cap') len (xs.map (Value.int .u8)) := ⟨hlen, .inr ⟨g, cap', cur, rfl, hg, hblk, hn, hmx, hsz, htake⟩⟩
    refine ⟨g, cap', rfl, hg, (hown.lt g rfl).2, fun j hj => ?_, hb⟩
    rw [hown.cellAt j (by omega)]
    rw [List.getElem?_map, List.getD_eq_getElem?_getD, List.getElem?_eq_getElem (by omega)]
    rfl

/-- 'escapedPair' at a known answer. -/
def PairSaid (R p x y q : Nat) (ok : Bool) (d : Value) (W : World) : Prop :=
  Calls Yba.prog 6 #[.pointer (some ⟨R, 0, none⟩)] W fun e w' => e = .returned (.tuple #[.int .u64 x, .int .u64 y, .bool ok]) ∧ RdAt R d q w' ∧ Below R W w'
theorem pair_said (R b o n cap : Nat) (l : List UInt8) (p x y q : Nat) (ok : Bool) (W : World) (hl : l.length = n) (hp : p ≤ n) (hcap : n ≤ cap) (hm : n ≤ 1048576) (hc9 : cap ≤ 9223372036854775807)
    (hx : pairR l p = (x, y, ok, q)) (hr : RdAt R (.slice (some ⟨b, o, none⟩) n cap) p W) (hd : DataIn b o l R W) : PairSaid R p x y q ok (.slice (some ⟨b, o, none⟩) n cap) W := by
  subst hl
  unfold PairSaid
  by_cases he : p = l.length
  · have := pair_end R (some ⟨b, o, none⟩) l cap p W he hm hr
    rw [hx] at this
    exact this
  · have := pair_more R b o cap l p W (by omega) hcap hm hc9 hr hd
    rw [hx] at this
    exact this

theorem rd_alloc (w1 : World) (d : Value) (p : Nat) : RdAt w1.heap.size d p (w1.alloc (.cells #[d, .int .i64 p] 30)) := by
  refine ⟨?_, ?_, ?_⟩
  · simp [World.cell?_alloc_mark]
  · simp [World.cell?_alloc_mark]
  · exact World.frozen?_alloc_at _ _ _ _ rfl

/-- The two calls of bytes.Equal. -/
def EqSaid (p1 p2 : Option Addr) (n c m d : Nat) (W : World) : Prop :=
  Calls Yba.prog 7 #[.slice p1 n c, .slice p2 m d] W fun e w' => e = .returned (.bool true) ∧ w' = W
theorem eq_said (p1 p2 : Option Addr) (n c d : Nat) (xs : List Int) (W : World) (hx : xs.length = n) (h1 : Lib.BytesIn W p1 n xs) (h2 : Lib.BytesIn W p2 n xs) : EqSaid p1 p2 n c n d W := by
  have := Yba.bytes_Equal_all p1 p2 n c n d xs xs W hx hx h1 h2
  rw [show (Lib.bytesOf xs == Lib.bytesOf xs) = true by simp] at this
  exact this

set_option maxHeartbeats 1600000 in
set_option maxRecDepth 100000 in
theorem walk_end (b o len cap : Nat) (xs : List Int) (a q : Nat) (w : World) (ha : a < 18446744073709551616) (hpos : 0 < len) (hm : len ≤ 1048576) (hcap : len ≤ cap) (hc9 : cap ≤ 9223372036854775807) (hxl : xs.length = len)
    (hwf : ∀ i, i < len → 0 ≤ xs.getD i 0 ∧ xs.getD i 0 < 256)
    (hcell : ∀ i, i < len → w.cell? ⟨b, o + i, none⟩ = some (.int .u8 (xs.getD i 0))) (hq : a % (len + 1) = q) (hqe : len = q) :
    Calls Yba.prog 3 #[.slice (some ⟨b, o, none⟩) len cap, .int .u64 a] w fun e w' => e = .returned (.bool true) ∧ Below w.heap.size w w' := by
  have hd : decide ((1048576 : Int) < (len : Int)) = false := decide_eq_false (by omega)
  have hql : q ≤ len := by have := Nat.mod_lt a (show 0 < len + 1 by omega); omega
  have hqi : (a : Int) % ((len : Int) + 1) = (q : Int) := by
    have := congrArg (fun n : Nat => (n : Int)) hq
    simpa using this
  have ha0 : (0 : Int) ≤ (a : Int) := by omega
  have ha1 : (a : Int) < 18446744073709551616 := by omega
  obtain ⟨l, hld⟩ : ∃ l, l = Lib.bytesOf xs := ⟨_, rfl⟩
  have hll : l.length = len := by rw [hld]; simp [Lib.bytesOf, hxl]
  have hby : ∀ j, j < len → xs.getD j 0 = ((l.getD j 0).toNat : Int) := fun j hj => by rw [hld]; exact (byte_getD xs j (hwf j hj).1 (hwf j hj).2).symm
  have Hcl : Hid (∀ i, i < len → w.cell? ⟨b, o + i, none⟩ = some (.int .u8 (xs.getD i 0))) := hcell
  have HBy : Hid (∀ j, j < len → xs.getD j 0 = ((l.getD j 0).toNat : Int)) := hby
  have HXL : Hid (xs.length = len) := hxl
  have HLL : Hid (l.length = len) := hll
  have hcc := cloned b o len cap xs w hpos hm hxl hcell
  have hbl : b < w.heap.size := World.block_lt_of_cell? _ _ (hcell 0 hpos)
  subst hqe
  have hpr : pairR l len = (0, 0, false, len) := by unfold pairR; exact if_pos (by omega)
  have HPAIR : Hid (pairR l len = (0, 0, false, len)) := hpr
  clear hpr
  clear hcell hwf hq hxl hld hll hby
  go_enter Yba.func3, Yba.ntmps3
  go_wp2_with fail
  refine hcc.mono ?_
  rintro e w1 ⟨g, c', rfl, hg0, hg1, hsn, hb1⟩
  have Hsn : Hid (∀ j, j < len → w1.cell? ⟨g, j, none⟩ = some (.int .u8 (xs.getD j 0))) := hsn
  have hsnl : ∀ j, j < len → w1.cell? ⟨g, j, none⟩ = some (.int .u8 (l.getD j 0).toNat) := fun j hj => by rw [← HBy.out j hj]; exact hsn j hj
  have Hsnl : Hid (∀ j, j < len → w1.cell? ⟨g, j, none⟩ = some (.int .u8 (l.getD j 0).toNat)) := hsnl
  have hw1 : w.heap.size ≤ w1.heap.size := hb1.size
  have hdat : DataIn b o l w1.heap.size (w1.alloc (.cells #[.slice (some ⟨b, o, none⟩) len cap, .int .i64 len] 30)) := ⟨by omega, fun j hj => by
    rw [World.cell?_alloc_lt _ _ _ (show (⟨b, o + j, none⟩ : Addr).block < w1.heap.size by show b < _; omega), hb1.cell (p := ⟨b, o + j, none⟩) hbl, Hcl.out j (by rw [← HLL.out]; exact hj), HBy.out j (by rw [← HLL.out]; exact hj)]⟩
  have hps := pair_said w1.heap.size b o len cap l len 0 0 len false _ HLL.out hql hcap hm hc9 HPAIR.out (rd_alloc w1 _ len) hdat
  have hbel0 : Below w1.heap.size w1 (w1.alloc (.cells #[.slice (some ⟨b, o, none⟩) len cap, .int .i64 len] 30)) := (Below.refl _ _).alloc (Nat.le_refl _) _
  clear hsn hsnl hcc hdat

  go_wp2_with fail
  refine Calls.mono hps ?_
  rintro e w3 ⟨rfl, hr3, hb3⟩
  obtain ⟨k0, k1, k2⟩ := hr3
  have hb13 : Below w1.heap.size w1 w3 := hbel0.trans hb3
  have heq := eq_said (some ⟨b, o, none⟩) (some ⟨g, 0, none⟩) len cap c' xs w3 HXL.out
    (fun _ => ⟨b, o, rfl, fun i hi => by rw [hb13.cell (p := ⟨b, o + i, none⟩) (by show b < _; omega), hb1.cell (p := ⟨b, o + i, none⟩) hbl]; exact Hcl.out i hi⟩)
    (fun _ => ⟨g, 0, rfl, fun i hi => by rw [Nat.zero_add, hb13.cell (p := ⟨g, i, none⟩) hg1]; exact Hsn.out i hi⟩)
  have hfinal : Below w.heap.size w w3 := hb1.trans (hb13.mono hw1)
  clear hbel0 hb3 hb1 hb13 hps
  go_wp2_with (go_at_call 7; refine Calls.mono heq ?_; rintro e w4 ⟨rfl, hw4⟩; have hw5 := hw4.symm; clear hw4; subst hw5)
  go_ret
  exact ⟨rfl, hfinal⟩

set_option maxHeartbeats 1600000 in
set_option maxRecDepth 100000 in
theorem walk_no1 (b o len cap : Nat) (xs : List Int) (a q : Nat) (w : World) (ha : a < 18446744073709551616) (hpos : 0 < len) (hm : len ≤ 1048576) (hcap : len ≤ cap) (hc9 : cap ≤ 9223372036854775807) (hxl : xs.length = len)
    (hwf : ∀ i, i < len → 0 ≤ xs.getD i 0 ∧ xs.getD i 0 < 256)
    (hcell : ∀ i, i < len → w.cell? ⟨b, o + i, none⟩ = some (.int .u8 (xs.getD i 0))) (hq : a % (len + 1) = q) (hqlt : q < len) (z x1 q1 : Nat) (hz : ((Lib.bytesOf xs).getD q 0).toNat = z) (h1 : halfR (Lib.bytesOf xs) (q + 1) (z / 16) = (x1, q1, false)) :
    Calls Yba.prog 3 #[.slice (some ⟨b, o, none⟩) len cap, .int .u64 a] w fun e w' => e = .returned (.bool true) ∧ Below w.heap.size w w' := by
  have hd : decide ((1048576 : Int) < (len : Int)) = false := decide_eq_false (by omega)
  have hql : q ≤ len := by have := Nat.mod_lt a (show 0 < len + 1 by omega); omega
  have hqi : (a : Int) % ((len : Int) + 1) = (q : Int) := by
    have := congrArg (fun n : Nat => (n : Int)) hq
    simpa using this
  have ha0 : (0 : Int) ≤ (a : Int) := by omega
  have ha1 : (a : Int) < 18446744073709551616 := by omega
  obtain ⟨l, hld⟩ : ∃ l, l = Lib.bytesOf xs := ⟨_, rfl⟩
  have hll : l.length = len := by rw [hld]; simp [Lib.bytesOf, hxl]
  have hby : ∀ j, j < len → xs.getD j 0 = ((l.getD j 0).toNat : Int) := fun j hj => by rw [hld]; exact (byte_getD xs j (hwf j hj).1 (hwf j hj).2).symm
  have Hcl : Hid (∀ i, i < len → w.cell? ⟨b, o + i, none⟩ = some (.int .u8 (xs.getD i 0))) := hcell
  have HBy : Hid (∀ j, j < len → xs.getD j 0 = ((l.getD j 0).toNat : Int)) := hby
  have HXL : Hid (xs.length = len) := hxl
  have HLL : Hid (l.length = len) := hll
  have hcc := cloned b o len cap xs w hpos hm hxl hcell
  have hbl : b < w.heap.size := World.block_lt_of_cell? _ _ (hcell 0 hpos)
  rw [← hld] at hz h1
  have hzl : (l.getD q 0).toNat < 256 := (l.getD q 0).toNat_lt
  have hpair : pairR l q = if (halfR l (q + 1) ((l.getD q 0).toNat / 16)).2.2 = false then (0, 0, false, (halfR l (q + 1) ((l.getD q 0).toNat / 16)).2.1)
    else ((halfR l (q + 1) ((l.getD q 0).toNat / 16)).1, (halfR l (halfR l (q + 1) ((l.getD q 0).toNat / 16)).2.1 ((l.getD q 0).toNat % 16)).1,
      (halfR l (halfR l (q + 1) ((l.getD q 0).toNat / 16)).2.1 ((l.getD q 0).toNat % 16)).2.2, (halfR l (halfR l (q + 1) ((l.getD q 0).toNat / 16)).2.1 ((l.getD q 0).toNat % 16)).2.1) := by
    unfold pairR; exact if_neg (by omega)
  rw [hz] at hzl hpair
  rw [h1] at hpair
  simp only at hpair
  have hq1 := halfR_pos_le l (q + 1) (z / 16) (by omega)
  rw [h1] at hq1
  simp only at hq1
  rw [hll] at hq1
  have HZ : Hid ((l.getD q 0).toNat = z) := hz
  have H1 : Hid _ := h1
  have hqd : decide ((q : Int) < (len : Int)) = true := decide_eq_true (by omega)
  have hqlt' : (q : Int) < (len : Int) := by omega
  have HPAIR : Hid (pairR l q = (0, 0, false, q1)) := hpair
  clear hpair hz h1
  clear hcell hwf hq hxl hld hll hby
  go_enter Yba.func3, Yba.ntmps3
  go_wp2_with fail
  refine hcc.mono ?_
  rintro e w1 ⟨g, c', rfl, hg0, hg1, hsn, hb1⟩
  have Hsn : Hid (∀ j, j < len → w1.cell? ⟨g, j, none⟩ = some (.int .u8 (xs.getD j 0))) := hsn
  have hsnl : ∀ j, j < len → w1.cell? ⟨g, j, none⟩ = some (.int .u8 (l.getD j 0).toNat) := fun j hj => by rw [← HBy.out j hj]; exact hsn j hj
  have Hsnl : Hid (∀ j, j < len → w1.cell? ⟨g, j, none⟩ = some (.int .u8 (l.getD j 0).toNat)) := hsnl
  have hw1 : w.heap.size ≤ w1.heap.size := hb1.size
  have hdat : DataIn b o l w1.heap.size (w1.alloc (.cells #[.slice (some ⟨b, o, none⟩) len cap, .int .i64 q] 30)) := ⟨by omega, fun j hj => by
    rw [World.cell?_alloc_lt _ _ _ (show (⟨b, o + j, none⟩ : Addr).block < w1.heap.size by show b < _; omega), hb1.cell (p := ⟨b, o + j, none⟩) hbl, Hcl.out j (by rw [← HLL.out]; exact hj), HBy.out j (by rw [← HLL.out]; exact hj)]⟩
  have hps := pair_said w1.heap.size b o len cap l q 0 0 q1 false _ HLL.out hql hcap hm hc9 HPAIR.out (rd_alloc w1 _ q) hdat
  have hbel0 : Below w1.heap.size w1 (w1.alloc (.cells #[.slice (some ⟨b, o, none⟩) len cap, .int .i64 q] 30)) := (Below.refl _ _).alloc (Nat.le_refl _) _
  clear hsn hsnl hcc hdat
  have hsq : w1.cell? ⟨g, q, none⟩ = some (.int .u8 (z : Int)) := by have := Hsnl.out q hqlt; rw [HZ.out] at this; exact this
  have hm1 := model_said g len c' l (q + 1) (z / 16) x1 q1 false w1 HLL.out hm (by omega) Hsnl.out H1.out
  go_wp2_with fail
  rw [show ((z : Int) / 16) = ((z / 16 : Nat) : Int) by omega, show ((q : Int) + 1) = ((q + 1 : Nat) : Int) by omega]
  refine Calls.mono hm1 ?_
  rintro e w4 ⟨rfl, hw4⟩
  have hw5 := hw4.symm
  clear hw4
  subst hw5

  go_wp2_with fail
  refine Calls.mono hps ?_
  rintro e w3 ⟨rfl, hr3, hb3⟩
  obtain ⟨k0, k1, k2⟩ := hr3
  have hb13 : Below w1.heap.size w1 w3 := hbel0.trans hb3
  have heq := eq_said (some ⟨b, o, none⟩) (some ⟨g, 0, none⟩) len cap c' xs w3 HXL.out
    (fun _ => ⟨b, o, rfl, fun i hi => by rw [hb13.cell (p := ⟨b, o + i, none⟩) (by show b < _; omega), hb1.cell (p := ⟨b, o + i, none⟩) hbl]; exact Hcl.out i hi⟩)
    (fun _ => ⟨g, 0, rfl, fun i hi => by rw [Nat.zero_add, hb13.cell (p := ⟨g, i, none⟩) hg1]; exact Hsn.out i hi⟩)
  have hfinal : Below w.heap.size w w3 := hb1.trans (hb13.mono hw1)
  clear hbel0 hb3 hb1 hb13 hps
  go_wp2_with (go_at_call 7; refine Calls.mono heq ?_; rintro e w4 ⟨rfl, hw4⟩; have hw5 := hw4.symm; clear hw4; subst hw5)
  go_ret
  exact ⟨rfl, hfinal⟩

set_option maxHeartbeats 1600000 in
set_option maxRecDepth 100000 in
theorem walk_no2 (b o len cap : Nat) (xs : List Int) (a q : Nat) (w : World) (ha : a < 18446744073709551616) (hpos : 0 < len) (hm : len ≤ 1048576) (hcap : len ≤ cap) (hc9 : cap ≤ 9223372036854775807) (hxl : xs.length = len)
    (hwf : ∀ i, i < len → 0 ≤ xs.getD i 0 ∧ xs.getD i 0 < 256)
    (hcell : ∀ i, i < len → w.cell? ⟨b, o + i, none⟩ = some (.int .u8 (xs.getD i 0))) (hq : a % (len + 1) = q) (hqlt : q < len) (z x1 q1 y1 q2 : Nat) (hz : ((Lib.bytesOf xs).getD q 0).toNat = z) (h1 : halfR (Lib.bytesOf xs) (q + 1) (z / 16) = (x1, q1, true)) (h2 : halfR (Lib.bytesOf xs) q1 (z % 16) = (y1, q2, false)) :
    Calls Yba.prog 3 #[.slice (some ⟨b, o, none⟩) len cap, .int .u64 a] w fun e w' => e = .returned (.bool true) ∧ Below w.heap.size w w' := by
  have hd : decide ((1048576 : Int) < (len : Int)) = false := decide_eq_false (by omega)
  have hql : q ≤ len := by have := Nat.mod_lt a (show 0 < len + 1 by omega); omega
  have hqi : (a : Int) % ((len : Int) + 1) = (q : Int) := by
    have := congrArg (fun n : Nat => (n : Int)) hq
    simpa using this
  have ha0 : (0 : Int) ≤ (a : Int) := by omega
  have ha1 : (a : Int) < 18446744073709551616 := by omega
  obtain ⟨l, hld⟩ : ∃ l, l = Lib.bytesOf xs := ⟨_, rfl⟩
  have hll : l.length = len := by rw [hld]; simp [Lib.bytesOf, hxl]
  have hby : ∀ j, j < len → xs.getD j 0 = ((l.getD j 0).toNat : Int) := fun j hj => by rw [hld]; exact (byte_getD xs j (hwf j hj).1 (hwf j hj).2).symm
  have Hcl : Hid (∀ i, i < len → w.cell? ⟨b, o + i, none⟩ = some (.int .u8 (xs.getD i 0))) := hcell
  have HBy : Hid (∀ j, j < len → xs.getD j 0 = ((l.getD j 0).toNat : Int)) := hby
  have HXL : Hid (xs.length = len) := hxl
  have HLL : Hid (l.length = len) := hll
  have hcc := cloned b o len cap xs w hpos hm hxl hcell
  have hbl : b < w.heap.size := World.block_lt_of_cell? _ _ (hcell 0 hpos)
  rw [← hld] at hz h1 h2
  have hzl : (l.getD q 0).toNat < 256 := (l.getD q 0).toNat_lt
  have hpair : pairR l q = if (halfR l (q + 1) ((l.getD q 0).toNat / 16)).2.2 = false then (0, 0, false, (halfR l (q + 1) ((l.getD q 0).toNat / 16)).2.1)
    else ((halfR l (q + 1) ((l.getD q 0).toNat / 16)).1, (halfR l (halfR l (q + 1) ((l.getD q 0).toNat / 16)).2.1 ((l.getD q 0).toNat % 16)).1,
      (halfR l (halfR l (q + 1) ((l.getD q 0).toNat / 16)).2.1 ((l.getD q 0).toNat % 16)).2.2, (halfR l (halfR l (q + 1) ((l.getD q 0).toNat / 16)).2.1 ((l.getD q 0).toNat % 16)).2.1) := by
    unfold pairR; exact if_neg (by omega)
  rw [hz] at hzl hpair
  rw [h1] at hpair
  simp only at hpair
  have hq1 := halfR_pos_le l (q + 1) (z / 16) (by omega)
  rw [h1] at hq1
  simp only at hq1
  rw [hll] at hq1
  have HZ : Hid ((l.getD q 0).toNat = z) := hz
  have H1 : Hid _ := h1
  have hqd : decide ((q : Int) < (len : Int)) = true := decide_eq_true (by omega)
  have hqlt' : (q : Int) < (len : Int) := by omega
  rw [h2] at hpair
  simp only at hpair
  have H2 : Hid _ := h2
  have hy0 := halfR_no _ _ _ _ _ h2
  subst hy0
  have HPAIR : Hid (pairR l q = (x1, 0, false, q2)) := hpair
  clear hpair hz h1 h2
  clear hcell hwf hq hxl hld hll hby
  go_enter Yba.func3, Yba.ntmps3
  go_wp2_with fail
  refine hcc.mono ?_
  rintro e w1 ⟨g, c', rfl, hg0, hg1, hsn, hb1⟩
  have Hsn : Hid (∀ j, j < len → w1.cell? ⟨g, j, none⟩ = some (.int .u8 (xs.getD j 0))) := hsn
  have hsnl : ∀ j, j < len → w1.cell? ⟨g, j, none⟩ = some (.int .u8 (l.getD j 0).toNat) := fun j hj => by rw [← HBy.out j hj]; exact hsn j hj
  have Hsnl : Hid (∀ j, j < len → w1.cell? ⟨g, j, none⟩ = some (.int .u8 (l.getD j 0).toNat)) := hsnl
  have hw1 : w.heap.size ≤ w1.heap.size := hb1.size
  have hdat : DataIn b o l w1.heap.size (w1.alloc (.cells #[.slice (some ⟨b, o, none⟩) len cap, .int .i64 q] 30)) := ⟨by omega, fun j hj => by
    rw [World.cell?_alloc_lt _ _ _ (show (⟨b, o + j, none⟩ : Addr).block < w1.heap.size by show b < _; omega), hb1.cell (p := ⟨b, o + j, none⟩) hbl, Hcl.out j (by rw [← HLL.out]; exact hj), HBy.out j (by rw [← HLL.out]; exact hj)]⟩
  have hps := pair_said w1.heap.size b o len cap l q x1 0 q2 false _ HLL.out hql hcap hm hc9 HPAIR.out (rd_alloc w1 _ q) hdat
  have hbel0 : Below w1.heap.size w1 (w1.alloc (.cells #[.slice (some ⟨b, o, none⟩) len cap, .int .i64 q] 30)) := (Below.refl _ _).alloc (Nat.le_refl _) _
  clear hsn hsnl hcc hdat
  have hsq : w1.cell? ⟨g, q, none⟩ = some (.int .u8 (z : Int)) := by have := Hsnl.out q hqlt; rw [HZ.out] at this; exact this
  have hm1 := model_said g len c' l (q + 1) (z / 16) x1 q1 true w1 HLL.out hm (by omega) Hsnl.out H1.out
  go_wp2_with fail
  rw [show ((z : Int) / 16) = ((z / 16 : Nat) : Int) by omega, show ((q : Int) + 1) = ((q + 1 : Nat) : Int) by omega]
  refine Calls.mono hm1 ?_
  rintro e w4 ⟨rfl, hw4⟩
  have hw5 := hw4.symm
  clear hw4
  subst hw5
  have hm2 := model_said g len c' l q1 (z % 16) 0 q2 false w1 HLL.out hm (by omega) Hsnl.out H2.out
  go_wp2_with fail
  rw [show ((z : Int) % 16) = ((z % 16 : Nat) : Int) by omega]
  refine Calls.mono hm2 ?_
  rintro e w4 ⟨rfl, hw4⟩
  have hw5 := hw4.symm
  clear hw4
  subst hw5

  go_wp2_with fail
  refine Calls.mono hps ?_
  rintro e w3 ⟨rfl, hr3, hb3⟩
  obtain ⟨k0, k1, k2⟩ := hr3
  have hb13 : Below w1.heap.size w1 w3 := hbel0.trans hb3
  have heq := eq_said (some ⟨b, o, none⟩) (some ⟨g, 0, none⟩) len cap c' xs w3 HXL.out
    (fun _ => ⟨b, o, rfl, fun i hi => by rw [hb13.cell (p := ⟨b, o + i, none⟩) (by show b < _; omega), hb1.cell (p := ⟨b, o + i, none⟩) hbl]; exact Hcl.out i hi⟩)
    (fun _ => ⟨g, 0, rfl, fun i hi => by rw [Nat.zero_add, hb13.cell (p := ⟨g, i, none⟩) hg1]; exact Hsn.out i hi⟩)
  have hfinal : Below w.heap.size w w3 := hb1.trans (hb13.mono hw1)
  clear hbel0 hb3 hb1 hb13 hps
  go_wp2_with (go_at_call 7; refine Calls.mono heq ?_; rintro e w4 ⟨rfl, hw4⟩; have hw5 := hw4.symm; clear hw4; subst hw5)
  go_ret
  exact ⟨rfl, hfinal⟩

set_option maxHeartbeats 1600000 in
set_option maxRecDepth 100000 in
theorem walk_yes (b o len cap : Nat) (xs : List Int) (a q : Nat) (w : World) (ha : a < 18446744073709551616) (hpos : 0 < len) (hm : len ≤ 1048576) (hcap : len ≤ cap) (hc9 : cap ≤ 9223372036854775807) (hxl : xs.length = len)
    (hwf : ∀ i, i < len → 0 ≤ xs.getD i 0 ∧ xs.getD i 0 < 256)
    (hcell : ∀ i, i < len → w.cell? ⟨b, o + i, none⟩ = some (.int .u8 (xs.getD i 0))) (hq : a % (len + 1) = q) (hqlt : q < len) (z x1 q1 y1 q2 : Nat) (hz : ((Lib.bytesOf xs).getD q 0).toNat = z) (h1 : halfR (Lib.bytesOf xs) (q + 1) (z / 16) = (x1, q1, true)) (h2 : halfR (Lib.bytesOf xs) q1 (z % 16) = (y1, q2, true)) :
    Calls Yba.prog 3 #[.slice (some ⟨b, o, none⟩) len cap, .int .u64 a] w fun e w' => e = .returned (.bool true) ∧ Below w.heap.size w w' := by
  have hd : decide ((1048576 : Int) < (len : Int)) = false := decide_eq_false (by omega)
  have hql : q ≤ len := by have := Nat.mod_lt a (show 0 < len + 1 by omega); omega
  have hqi : (a : Int) % ((len : Int) + 1) = (q : Int) := by
    have := congrArg (fun n : Nat => (n : Int)) hq
    simpa using this
  have ha0 : (0 : Int) ≤ (a : Int) := by omega
  have ha1 : (a : Int) < 18446744073709551616 := by omega
  obtain ⟨l, hld⟩ : ∃ l, l = Lib.bytesOf xs := ⟨_, rfl⟩
  have hll : l.length = len := by rw [hld]; simp [Lib.bytesOf, hxl]
  have hby : ∀ j, j < len → xs.getD j 0 = ((l.getD j 0).toNat : Int) := fun j hj => by rw [hld]; exact (byte_getD xs j (hwf j hj).1 (hwf j hj).2).symm
  have Hcl : Hid (∀ i, i < len → w.cell? ⟨b, o + i, none⟩ = some (.int .u8 (xs.getD i 0))) := hcell
  have HBy : Hid (∀ j, j < len → xs.getD j 0 = ((l.getD j 0).toNat : Int)) := hby
  have HXL : Hid (xs.length = len) := hxl
  have HLL : Hid (l.length = len) := hll
  have hcc := cloned b o len cap xs w hpos hm hxl hcell
  have hbl : b < w.heap.size := World.block_lt_of_cell? _ _ (hcell 0 hpos)
  rw [← hld] at hz h1 h2
  have hzl : (l.getD q 0).toNat < 256 := (l.getD q 0).toNat_lt
  have hpair : pairR l q = if (halfR l (q + 1) ((l.getD q 0).toNat / 16)).2.2 = false then (0, 0, false, (halfR l (q + 1) ((l.getD q 0).toNat / 16)).2.1)
    else ((halfR l (q + 1) ((l.getD q 0).toNat / 16)).1, (halfR l (halfR l (q + 1) ((l.getD q 0).toNat / 16)).2.1 ((l.getD q 0).toNat % 16)).1,
      (halfR l (halfR l (q + 1) ((l.getD q 0).toNat / 16)).2.1 ((l.getD q 0).toNat % 16)).2.2, (halfR l (halfR l (q + 1) ((l.getD q 0).toNat / 16)).2.1 ((l.getD q 0).toNat % 16)).2.1) := by
    unfold pairR; exact if_neg (by omega)
  rw [hz] at hzl hpair
  rw [h1] at hpair
  simp only at hpair
  have hq1 := halfR_pos_le l (q + 1) (z / 16) (by omega)
  rw [h1] at hq1
  simp only at hq1
  rw [hll] at hq1
  have HZ : Hid ((l.getD q 0).toNat = z) := hz
  have H1 : Hid _ := h1
  have hqd : decide ((q : Int) < (len : Int)) = true := decide_eq_true (by omega)
  have hqlt' : (q : Int) < (len : Int) := by omega
  rw [h2] at hpair
  simp only at hpair
  have H2 : Hid _ := h2
  have HPAIR : Hid (pairR l q = (x1, y1, true, q2)) := hpair
  clear hpair hz h1 h2
  clear hcell hwf hq hxl hld hll hby
  go_enter Yba.func3, Yba.ntmps3
  go_wp2_with fail
  refine hcc.mono ?_
  rintro e w1 ⟨g, c', rfl, hg0, hg1, hsn, hb1⟩
  have Hsn : Hid (∀ j, j < len → w1.cell? ⟨g, j, none⟩ = some (.int .u8 (xs.getD j 0))) := hsn
  have hsnl : ∀ j, j < len → w1.cell? ⟨g, j, none⟩ = some (.int .u8 (l.getD j 0).toNat) := fun j hj => by rw [← HBy.out j hj]; exact hsn j hj
  have Hsnl : Hid (∀ j, j < len → w1.cell? ⟨g, j, none⟩ = some (.int .u8 (l.getD j 0).toNat)) := hsnl
  have hw1 : w.heap.size ≤ w1.heap.size := hb1.size
  have hdat : DataIn b o l w1.heap.size (w1.alloc (.cells #[.slice (some ⟨b, o, none⟩) len cap, .int .i64 q] 30)) := ⟨by omega, fun j hj => by
    rw [World.cell?_alloc_lt _ _ _ (show (⟨b, o + j, none⟩ : Addr).block < w1.heap.size by show b < _; omega), hb1.cell (p := ⟨b, o + j, none⟩) hbl, Hcl.out j (by rw [← HLL.out]; exact hj), HBy.out j (by rw [← HLL.out]; exact hj)]⟩
  have hps := pair_said w1.heap.size b o len cap l q x1 y1 q2 true _ HLL.out hql hcap hm hc9 HPAIR.out (rd_alloc w1 _ q) hdat
  have hbel0 : Below w1.heap.size w1 (w1.alloc (.cells #[.slice (some ⟨b, o, none⟩) len cap, .int .i64 q] 30)) := (Below.refl _ _).alloc (Nat.le_refl _) _
  clear hsn hsnl hcc hdat
  have hsq : w1.cell? ⟨g, q, none⟩ = some (.int .u8 (z : Int)) := by have := Hsnl.out q hqlt; rw [HZ.out] at this; exact this
  have hm1 := model_said g len c' l (q + 1) (z / 16) x1 q1 true w1 HLL.out hm (by omega) Hsnl.out H1.out
  go_wp2_with fail
  rw [show ((z : Int) / 16) = ((z / 16 : Nat) : Int) by omega, show ((q : Int) + 1) = ((q + 1 : Nat) : Int) by omega]
  refine Calls.mono hm1 ?_
  rintro e w4 ⟨rfl, hw4⟩
  have hw5 := hw4.symm
  clear hw4
  subst hw5
  have hm2 := model_said g len c' l q1 (z % 16) y1 q2 true w1 HLL.out hm (by omega) Hsnl.out H2.out
  go_wp2_with fail
  rw [show ((z : Int) % 16) = ((z % 16 : Nat) : Int) by omega]
  refine Calls.mono hm2 ?_
  rintro e w4 ⟨rfl, hw4⟩
  have hw5 := hw4.symm
  clear hw4
  subst hw5

  go_wp2_with fail
  refine Calls.mono hps ?_
  rintro e w3 ⟨rfl, hr3, hb3⟩
  obtain ⟨k0, k1, k2⟩ := hr3
  have hb13 : Below w1.heap.size w1 w3 := hbel0.trans hb3
  have heq := eq_said (some ⟨b, o, none⟩) (some ⟨g, 0, none⟩) len cap c' xs w3 HXL.out
    (fun _ => ⟨b, o, rfl, fun i hi => by rw [hb13.cell (p := ⟨b, o + i, none⟩) (by show b < _; omega), hb1.cell (p := ⟨b, o + i, none⟩) hbl]; exact Hcl.out i hi⟩)
    (fun _ => ⟨g, 0, rfl, fun i hi => by rw [Nat.zero_add, hb13.cell (p := ⟨g, i, none⟩) hg1]; exact Hsn.out i hi⟩)
  have hfinal : Below w.heap.size w w3 := hb1.trans (hb13.mono hw1)
  clear hbel0 hb3 hb1 hb13 hps
  go_wp2_with (go_at_call 7; refine Calls.mono heq ?_; rintro e w4 ⟨rfl, hw4⟩; have hw5 := hw4.symm; clear hw4; subst hw5)
  go_ret
  exact ⟨rfl, hfinal⟩

theorem walk_some (b o len cap : Nat) (xs : List Int) (a : Nat) (w : World) (ha : a < 18446744073709551616) (hpos : 0 < len) (hm : len ≤ 1048576) (hcap : len ≤ cap) (hc9 : cap ≤ 9223372036854775807) (hxl : xs.length = len)
    (hwf : ∀ i, i < len → 0 ≤ xs.getD i 0 ∧ xs.getD i 0 < 256)
    (hcell : ∀ i, i < len → w.cell? ⟨b, o + i, none⟩ = some (.int .u8 (xs.getD i 0))) :
    Calls Yba.prog 3 #[.slice (some ⟨b, o, none⟩) len cap, .int .u64 a] w fun e w' => e = .returned (.bool true) ∧ Below w.heap.size w w' := by
  have hlt := Nat.mod_lt a (show 0 < len + 1 by omega)
  obtain ⟨q, hq⟩ : ∃ q, a % (len + 1) = q := ⟨_, rfl⟩
  rw [hq] at hlt
  by_cases hqe : len = q
  · exact walk_end b o len cap xs a q w ha hpos hm hcap hc9 hxl hwf hcell hq hqe
  · have hqlt : q < len := by omega
    obtain ⟨z, hz⟩ : ∃ z, ((Lib.bytesOf xs).getD q 0).toNat = z := ⟨_, rfl⟩
    obtain ⟨x1, q1, ok1, h1⟩ : ∃ x1 q1 ok1, halfR (Lib.bytesOf xs) (q + 1) (z / 16) = (x1, q1, ok1) := ⟨_, _, _, rfl⟩
    cases ok1
    · exact walk_no1 b o len cap xs a q w ha hpos hm hcap hc9 hxl hwf hcell hq hqlt z x1 q1 hz h1
    · obtain ⟨y1, q2, ok2, h2⟩ : ∃ y1 q2 ok2, halfR (Lib.bytesOf xs) q1 (z % 16) = (y1, q2, ok2) := ⟨_, _, _, rfl⟩
      cases ok2
      · exact walk_no2 b o len cap xs a q w ha hpos hm hcap hc9 hxl hwf hcell hq hqlt z x1 q1 y1 q2 hz h1 h2
      · exact walk_yes b o len cap xs a q w ha hpos hm hcap hc9 hxl hwf hcell hq hqlt z x1 q1 y1 q2 hz h1 h2

/-! No byte at all. -/
set_option maxHeartbeats 800000 in
theorem walk_nil (a : Nat) (w : World) :
    Calls Yba.prog 3 #[.slice none 0 0, .int .u64 a] w fun e w' => e = .returned (.bool true) ∧ Below w.heap.size w w' := by
  have hps := pair_end w.heap.size none [] 0 0 (w.alloc (.cells #[.slice none 0 0, .int .i64 0] 30)) rfl (by decide) (rd_alloc w _ 0)
  have hpr : pairR [] 0 = (0, 0, false, 0) := by decide
  rw [hpr] at hps
  have HPS : PairSaid w.heap.size 0 0 0 0 false (.slice none 0 0) (w.alloc (.cells #[.slice none 0 0, .int .i64 0] 30)) := hps
  clear hps hpr
  have hbel0 : Below w.heap.size w (w.alloc (.cells #[.slice none 0 0, .int .i64 0] 30)) := (Below.refl _ _).alloc (Nat.le_refl _) _
  have ha0 : (0 : Int) ≤ (a : Int) := by omega
  go_enter Yba.func3, Yba.ntmps3
  go_wp2_with fail
  refine (Yba.bytes_Clone_nil 0 0 w).mono ?_
  rintro e w4 ⟨rfl, hw4⟩
  have hw5 := hw4.symm
  clear hw4
  subst hw5
  go_wp2_with fail
  refine Calls.mono HPS ?_
  rintro e w3 ⟨rfl, hr3, hb3⟩
  obtain ⟨k0, k1, k2⟩ := hr3
  have heq := eq_said none none 0 0 0 [] w3 rfl (Lib.BytesIn.nil _ _ _) (Lib.BytesIn.nil _ _ _)
  have hfinal : Below w.heap.size w w3 := hbel0.trans hb3
  clear hbel0 hb3 HPS
  go_wp2_with (go_at_call 7; refine Calls.mono heq ?_; rintro e w4 ⟨rfl, hw4⟩; have hw5 := hw4.symm; clear hw4; subst hw5)
  go_ret
  exact ⟨rfl, hfinal⟩

set_option maxHeartbeats 800000 in
theorem walk_empty (x : Addr) (cap : Nat) (a : Nat) (w : World) :
    Calls Yba.prog 3 #[.slice (some x) 0 cap, .int .u64 a] w fun e w' => e = .returned (.bool true) ∧ Below w.heap.size w w' := by
  have hpr : pairR [] 0 = (0, 0, false, 0) := by decide
  have HPS : ∀ w1 : World, PairSaid w1.heap.size 0 0 0 0 false (.slice (some x) 0 cap) (w1.alloc (.cells #[.slice (some x) 0 cap, .int .i64 0] 30)) := fun w1 => by
    have hps := pair_end w1.heap.size (some x) [] cap 0 (w1.alloc (.cells #[.slice (some x) 0 cap, .int .i64 0] 30)) rfl (by decide) (rd_alloc w1 _ 0)
    rw [hpr] at hps
    exact hps
  clear hpr
  have ha0 : (0 : Int) ≤ (a : Int) := by omega
  go_enter Yba.func3, Yba.ntmps3
  go_wp2_with fail
  refine (Yba.bytes_Clone_at x 0 cap [] w rfl (by omega) (fun i hi => absurd hi (Nat.not_lt_zero i))).mono ?_
  rintro e w1 ⟨v', rfl, hown, hne, hb1⟩
  obtain ⟨hlen, ⟨hv, _⟩ | ⟨g, cap', cur, rfl, hg, hblk, hn, hmx, hsz, htake⟩⟩ := hown
  · exact absurd hv hne
  clear hlen hblk hsz htake hne
  go_wp2_with fail
  refine Calls.mono (HPS w1) ?_
  rintro e w3 ⟨rfl, hr3, hb3⟩
  obtain ⟨k0, k1, k2⟩ := hr3
  have heq := eq_said (some x) (some ⟨g, 0, none⟩) 0 cap cap' [] w3 rfl (Lib.BytesIn.nil _ _ _) (Lib.BytesIn.nil _ _ _)
  have hb13 : Below w1.heap.size w1 w3 := ((Below.refl _ _).alloc (Nat.le_refl _) _).trans hb3
  have hfinal : Below w.heap.size w w3 := hb1.trans (hb13.mono hb1.size)
  clear hb13 hb1 hb3 HPS
  go_wp2_with (go_at_call 7; refine Calls.mono heq ?_; rintro e w4 ⟨rfl, hw4⟩; have hw5 := hw4.symm; clear hw4; subst hw5)
  go_ret
  exact ⟨rfl, hfinal⟩
end Go.Proofs.Ybulkejju.lawS6780BWhole
