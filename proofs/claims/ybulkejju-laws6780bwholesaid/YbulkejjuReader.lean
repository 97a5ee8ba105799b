import Derived.Test.YbulkejjuRows
import Derived.Test.YbulkejjuPlain
import Derived.Test.YbulkejjuShelf
import Derived.WalkKit
import Derived.WalkSpells
import Derived.WalkLawsBesides
import Derived.Deep.QuietTactic
import Derived.BigQuiet
namespace Go.Proofs.Ybulkejju.lawS6780BWhole
open Go.RowKit Go.Proofs.Ybulkejju.Plain
set_option linter.unusedVariables false

/-- A reader in memory: block R holds the slice and the offset. -/
structure RdAt (R : Nat) (d : Value) (off : Nat) (w : World) : Prop where
  c0 : w.cell? ⟨R, 0, none⟩ = some d
  c1 : w.cell? ⟨R, 1, none⟩ = some (.int .i64 off)
  f1 : w.frozen? ⟨R, 1, none⟩ = false

/-- The data's bytes in memory, in a block before R. -/
structure DataIn (b o : Nat) (l : List UInt8) (R : Nat) (w : World) : Prop where
  lt : b < R
  cell : ∀ j, j < l.length → w.cell? ⟨b, o + j, none⟩ = some (.int .u8 (l.getD j 0).toNat)

theorem RdAt.drewN {R : Nat} {d : Value} {off : Nat} {w : World} (h : RdAt R d off w) (n : Nat) : RdAt R d off (w.drewN n) := ⟨h.c0, h.c1, h.f1⟩
theorem DataIn.below {b o : Nat} {l : List UInt8} {R : Nat} {w w' : World} (h : DataIn b o l R w) (hb : Below R w w') : DataIn b o l R w' :=
  ⟨h.lt, fun j hj => by rw [hb.cell (p := ⟨b, o + j, none⟩) h.lt]; exact h.cell j hj⟩

theorem RdAt.moved {R : Nat} {d : Value} {off : Nat} {w : World} (h : RdAt R d off w) (x : Nat) : RdAt R d x (w.setCell ⟨R, 1, none⟩ (.int .i64 x)) := by
  refine ⟨?_, ?_, ?_⟩
  · rw [World.cell?_setCell_other _ _ _ _ (by simp)]; exact h.c0
  · exact World.cell?_setCell_same _ _ _ h.c1
  · rw [World.frozen?_setCell]; exact h.f1

theorem RdAt.movedTo {R : Nat} {d : Value} {off : Nat} {w : World} (h : RdAt R d off w) {y : Nat} {x : Int} (hx : x = (y : Int)) : RdAt R d y (w.setCell ⟨R, 1, none⟩ (.int .i64 x)) := by
  subst hx; exact h.moved y

/-- What 'reader.uvarint' comes to. -/
def uvR (l : List UInt8) (p : Nat) : Nat × Nat × Bool :=
  if (Lib.uvarintDec (l.drop p)).2 ≤ 0 then (0, p, false)
  else if 1 < (Lib.uvarintDec (l.drop p)).2 ∧ (l.getD (p + (Lib.uvarintDec (l.drop p)).2.toNat - 1) 0).toNat = 0 then (0, p, false)
  else ((Lib.uvarintDec (l.drop p)).1, p + (Lib.uvarintDec (l.drop p)).2.toNat, true)

theorem uvR_none (l : List UInt8) (p : Nat) {V : Nat} {N : Int} (h : Lib.uvarintDec (l.drop p) = (V, N)) (hn : N ≤ 0) : uvR l p = (0, p, false) := by
  unfold uvR; rw [h]; exact if_pos hn
theorem uvR_zero (l : List UInt8) (p : Nat) {V : Nat} {N : Int} (h : Lib.uvarintDec (l.drop p) = (V, N)) (hn : 1 < N) (hz : (l.getD (p + N.toNat - 1) 0).toNat = 0) : uvR l p = (0, p, false) := by
  unfold uvR; rw [h]; simp only; rw [if_neg (by omega), if_pos ⟨hn, hz⟩]
theorem uvR_ok (l : List UInt8) (p : Nat) {V : Nat} {N : Int} (h : Lib.uvarintDec (l.drop p) = (V, N)) (hn : 0 < N) (hz : ¬ (1 < N ∧ (l.getD (p + N.toNat - 1) 0).toNat = 0)) : uvR l p = (V, p + N.toNat, true) := by
  unfold uvR; rw [h]; simp only; rw [if_neg (by omega), if_neg hz]

theorem ret_uv {r : Nat × Nat × Bool} {a b : Nat} {c : Bool} (h : r = (a, b, c)) {x : Int} (hx : x = a) :
    Ending.returned (.tuple #[.int .u64 x, .bool c]) = .returned (.tuple #[.int .u64 r.1, .bool r.2.2]) := by
  subst h; rw [hx]
theorem pos_uv {r : Nat × Nat × Bool} {a b : Nat} {c : Bool} (h : r = (a, b, c)) {R : Nat} {d : Value} {w : World} (hr : RdAt R d b w) : RdAt R d r.2.1 w := by
  subst h; exact hr

/-- The uvarint that starts at p, whatever the slice is cut to, once the library's answer is known. -/
def UvAns (ad : Option Addr) (n c : Nat) (w : World) (V : Nat) (N : Int) : Prop :=
  ∀ k, Calls Yba.prog 10 #[.slice ad n c] (w.drewN k) fun e w' => e = .returned (.tuple #[.int .u64 V, .int .i64 N]) ∧ w' = w.drewN k

theorem uvAns (R b o cap : Nat) (l : List UInt8) (p : Nat) (w : World) (hp : p ≤ l.length) (hd : DataIn b o l R w) {V : Nat} {N : Int} (h : Lib.uvarintDec (l.drop p) = (V, N)) :
    UvAns (some ⟨b, o + p, none⟩) (l.length - p) (cap - p) w V N := by
  intro k
  have hu := Yba.binary_Uvarint b (o + p) (l.length - p) (cap - p) (l.drop p) (w.drewN k) (by simp) (fun j hj => by
    have hj' : p + j < l.length := by simp at hj; omega
    rw [World.cell?_drewN, Nat.add_assoc, hd.cell (p + j) hj']
    simp [hj'])
  rw [h] at hu
  exact hu

set_option maxHeartbeats 800000 in
theorem uvarint_none (R b o cap : Nat) (l : List UInt8) (p : Nat) (w : World) (hp : p ≤ l.length) (hcap : l.length ≤ cap) (hpc : p < cap) (hm : l.length ≤ 1048576) (hc9 : cap ≤ 9223372036854775807)
    (hr : RdAt R (.slice (some ⟨b, o, none⟩) l.length cap) p w) (hd : DataIn b o l R w) {V : Nat} {N : Int} (h : Lib.uvarintDec (l.drop p) = (V, N)) (hN : N ≤ 0) :
    Calls Yba.prog 9 #[.pointer (some ⟨R, 0, none⟩)] w fun e w' => e = .returned (.tuple #[.int .u64 (uvR l p).1, .bool (uvR l p).2.2]) ∧ RdAt R (.slice (some ⟨b, o, none⟩) l.length cap) (uvR l p).2.1 w' ∧ Below R w w' := by
  have Hans : Hid (UvAns (some ⟨b, o + p, none⟩) (l.length - p) (cap - p) w V N) := uvAns R b o cap l p w hp hd h
  have Hr : Hid (RdAt R (.slice (some ⟨b, o, none⟩) l.length cap) p w) := hr
  have hle := dec_le l p hp
  rw [h] at hle
  simp only at hle
  have Hfin : Hid (uvR l p = (0, p, false)) := uvR_none l p h hN
  have hdN : decide (N ≤ 0) = true := decide_eq_true hN
  obtain ⟨c0, c1, f1⟩ := hr
  clear h hd
  have hi : (p : Int) ≤ (l.length : Int) := by omega
  have hi2 : (p : Int) < (cap : Int) := by omega
  have hi3 : (l.length : Int) ≤ (cap : Int) := by omega
  go_enter Yba.func9, Yba.ntmps9
  go_wp2
  go_quiet ((go_at_call 10; exact Calls.quiet_of_same (Hans.out _)))
  go_wp2
  go_quiet (fail)
  go_wp2
  go_ret2
  exact ⟨ret_uv Hfin.out rfl, pos_uv Hfin.out ((Hr.out.drewN _).drewN _), below_drewN (below_drewN (Below.refl _ _) _) _⟩

set_option maxHeartbeats 800000 in
/-- .. at the very end of the capacity. -/
theorem uvarint_end (R b o : Nat) (l : List UInt8) (w : World) (hm : l.length ≤ 1048576)
    (hr : RdAt R (.slice (some ⟨b, o, none⟩) l.length l.length) l.length w) :
    Calls Yba.prog 9 #[.pointer (some ⟨R, 0, none⟩)] w fun e w' => e = .returned (.tuple #[.int .u64 (uvR l l.length).1, .bool (uvR l l.length).2.2]) ∧ RdAt R (.slice (some ⟨b, o, none⟩) l.length l.length) (uvR l l.length).2.1 w' ∧ Below R w w' := by
  have Hfin : Hid (uvR l l.length = (0, l.length, false)) := uvR_none l l.length (V := 0) (N := 0) (by rw [List.drop_length]; rfl) (by decide)
  have Hr : Hid (RdAt R (.slice (some ⟨b, o, none⟩) l.length l.length) l.length w) := hr
  have Hans : Hid (UvAns (some ⟨b, o, none⟩) 0 0 w 0 0) := fun k => Yba.binary_Uvarint_empty (some ⟨b, o, none⟩) 0 (w.drewN k)
  obtain ⟨c0, c1, f1⟩ := hr
  go_enter Yba.func9, Yba.ntmps9
  go_wp2
  go_quiet ((go_at_call 10; exact Calls.quiet_of_same (Hans.out _)))
  go_wp2
  go_quiet (fail)
  go_wp2
  go_ret2
  exact ⟨ret_uv Hfin.out rfl, pos_uv Hfin.out ((Hr.out.drewN _).drewN _), below_drewN (below_drewN (Below.refl _ _) _) _⟩

set_option maxHeartbeats 800000 in
theorem uvarint_one (R b o cap : Nat) (l : List UInt8) (p : Nat) (w : World) (hp : p ≤ l.length) (hcap : l.length ≤ cap) (hpc : p < cap) (hm : l.length ≤ 1048576) (hc9 : cap ≤ 9223372036854775807)
    (hr : RdAt R (.slice (some ⟨b, o, none⟩) l.length cap) p w) (hd : DataIn b o l R w) {V : Nat} {N : Int} (h : Lib.uvarintDec (l.drop p) = (V, N)) (hN : N = 1) :
    Calls Yba.prog 9 #[.pointer (some ⟨R, 0, none⟩)] w fun e w' => e = .returned (.tuple #[.int .u64 (uvR l p).1, .bool (uvR l p).2.2]) ∧ RdAt R (.slice (some ⟨b, o, none⟩) l.length cap) (uvR l p).2.1 w' ∧ Below R w w' := by
  have Hans : Hid (UvAns (some ⟨b, o + p, none⟩) (l.length - p) (cap - p) w V N) := uvAns R b o cap l p w hp hd h
  have Hr : Hid (RdAt R (.slice (some ⟨b, o, none⟩) l.length cap) p w) := hr
  have hle := dec_le l p hp
  rw [h] at hle
  simp only at hle
  have Hfin : Hid (uvR l p = (V, p + 1, true)) := by
    have := uvR_ok l p h (by omega) (by omega)
    rw [hN] at this
    exact this
  subst hN
  obtain ⟨c0, c1, f1⟩ := hr
  clear h hd
  have hi : (p : Int) ≤ (l.length : Int) := by omega
  have hi2 : (p : Int) < (cap : Int) := by omega
  have hi3 : (l.length : Int) ≤ (cap : Int) := by omega
  go_enter Yba.func9, Yba.ntmps9
  go_wp2
  go_quiet ((go_at_call 10; exact Calls.quiet_of_same (Hans.out _)))
  go_wp2
  go_quiet (fail)
  go_wp2
  go_ret2
  exact ⟨ret_uv Hfin.out rfl, pos_uv Hfin.out ((Hr.out.drewN _).movedTo (by omega)), (below_drewN (Below.refl R _) _).setCell (p := ⟨R, 1, none⟩) (Nat.le_refl R) _⟩

set_option maxHeartbeats 800000 in
theorem uvarint_zero (R b o cap : Nat) (l : List UInt8) (p : Nat) (w : World) (hp : p ≤ l.length) (hcap : l.length ≤ cap) (hpc : p < cap) (hm : l.length ≤ 1048576) (hc9 : cap ≤ 9223372036854775807)
    (hr : RdAt R (.slice (some ⟨b, o, none⟩) l.length cap) p w) (hd : DataIn b o l R w) {V : Nat} {N : Int} (h : Lib.uvarintDec (l.drop p) = (V, N)) (hN : 1 < N) (hz : (l.getD (p + N.toNat - 1) 0).toNat = 0) :
    Calls Yba.prog 9 #[.pointer (some ⟨R, 0, none⟩)] w fun e w' => e = .returned (.tuple #[.int .u64 (uvR l p).1, .bool (uvR l p).2.2]) ∧ RdAt R (.slice (some ⟨b, o, none⟩) l.length cap) (uvR l p).2.1 w' ∧ Below R w w' := by
  have Hans : Hid (UvAns (some ⟨b, o + p, none⟩) (l.length - p) (cap - p) w V N) := uvAns R b o cap l p w hp hd h
  have Hr : Hid (RdAt R (.slice (some ⟨b, o, none⟩) l.length cap) p w) := hr
  have hle := dec_le l p hp
  rw [h] at hle
  simp only at hle
  have Hfin : Hid (uvR l p = (0, p, false)) := uvR_zero l p h hN hz
  obtain ⟨m, hm1⟩ : ∃ m : Nat, N = (m : Int) + 1 := ⟨(N - 1).toNat, by omega⟩
  subst hm1
  have hm0 : (0 : Int) < (m : Int) := by omega
  have hcl := hd.cell (p + m) (by omega)
  rw [show p + ((m : Int) + 1).toNat - 1 = p + m by omega] at hz
  rw [hz] at hcl
  have hdN : decide ((m : Int) + 1 ≤ 0) = false := decide_eq_false (by omega)
  have hd1 : decide (1 < (m : Int) + 1) = true := decide_eq_true (by omega)
  have hpm : (p : Int) + (m : Int) < (l.length : Int) := by omega
  clear hz
  obtain ⟨c0, c1, f1⟩ := hr
  clear h hd
  have hi : (p : Int) ≤ (l.length : Int) := by omega
  have hi2 : (p : Int) < (cap : Int) := by omega
  have hi3 : (l.length : Int) ≤ (cap : Int) := by omega
  go_enter Yba.func9, Yba.ntmps9
  go_wp2
  go_quiet ((go_at_call 10; exact Calls.quiet_of_same (Hans.out _)))
  go_wp2
  go_quiet (fail)
  go_wp2
  go_ret2
  exact ⟨ret_uv Hfin.out rfl, pos_uv Hfin.out ((Hr.out.drewN _).drewN _), below_drewN (below_drewN (Below.refl _ _) _) _⟩

set_option maxHeartbeats 800000 in
theorem uvarint_more (R b o cap : Nat) (l : List UInt8) (p : Nat) (w : World) (hp : p ≤ l.length) (hcap : l.length ≤ cap) (hpc : p < cap) (hm : l.length ≤ 1048576) (hc9 : cap ≤ 9223372036854775807)
    (hr : RdAt R (.slice (some ⟨b, o, none⟩) l.length cap) p w) (hd : DataIn b o l R w) {V : Nat} {N : Int} (h : Lib.uvarintDec (l.drop p) = (V, N)) (hN : 1 < N) (hz : (l.getD (p + N.toNat - 1) 0).toNat ≠ 0) :
    Calls Yba.prog 9 #[.pointer (some ⟨R, 0, none⟩)] w fun e w' => e = .returned (.tuple #[.int .u64 (uvR l p).1, .bool (uvR l p).2.2]) ∧ RdAt R (.slice (some ⟨b, o, none⟩) l.length cap) (uvR l p).2.1 w' ∧ Below R w w' := by
  have Hans : Hid (UvAns (some ⟨b, o + p, none⟩) (l.length - p) (cap - p) w V N) := uvAns R b o cap l p w hp hd h
  have Hr : Hid (RdAt R (.slice (some ⟨b, o, none⟩) l.length cap) p w) := hr
  have hle := dec_le l p hp
  rw [h] at hle
  simp only at hle
  have Hfin : Hid (uvR l p = (V, p + N.toNat, true)) := uvR_ok l p h (by omega) (by omega)
  obtain ⟨m, hm1⟩ : ∃ m : Nat, N = (m : Int) + 1 := ⟨(N - 1).toNat, by omega⟩
  subst hm1
  have hm0 : (0 : Int) < (m : Int) := by omega
  have hcl := hd.cell (p + m) (by omega)
  rw [show p + ((m : Int) + 1).toNat - 1 = p + m by omega] at hz
  obtain ⟨z, hzd⟩ : ∃ z, (l.getD (p + m) 0).toNat = z := ⟨_, rfl⟩
  rw [hzd] at hcl hz
  have hz0 : ((z : Int) == 0) = false := by simpa using hz
  have hdN : decide ((m : Int) + 1 ≤ 0) = false := decide_eq_false (by omega)
  have hd1 : decide (1 < (m : Int) + 1) = true := decide_eq_true (by omega)
  have hpm : (p : Int) + (m : Int) < (l.length : Int) := by omega
  clear hz hzd
  obtain ⟨c0, c1, f1⟩ := hr
  clear h hd
  have hi : (p : Int) ≤ (l.length : Int) := by omega
  have hi2 : (p : Int) < (cap : Int) := by omega
  have hi3 : (l.length : Int) ≤ (cap : Int) := by omega
  go_enter Yba.func9, Yba.ntmps9
  go_wp2
  go_quiet ((go_at_call 10; exact Calls.quiet_of_same (Hans.out _)))
  go_wp2
  go_quiet (fail)
  go_wp2
  go_ret2
  exact ⟨ret_uv Hfin.out rfl, pos_uv Hfin.out ((Hr.out.drewN _).movedTo (by omega)), (below_drewN (Below.refl R _) _).setCell (p := ⟨R, 1, none⟩) (Nat.le_refl R) _⟩

/-- 'reader.uvarint', wherever the reader stands. -/
theorem uvarint_calls (R b o cap : Nat) (l : List UInt8) (p : Nat) (w : World) (hp : p ≤ l.length) (hcap : l.length ≤ cap) (hm : l.length ≤ 1048576) (hc9 : cap ≤ 9223372036854775807)
    (hr : RdAt R (.slice (some ⟨b, o, none⟩) l.length cap) p w) (hd : DataIn b o l R w) :
    Calls Yba.prog 9 #[.pointer (some ⟨R, 0, none⟩)] w fun e w' => e = .returned (.tuple #[.int .u64 (uvR l p).1, .bool (uvR l p).2.2]) ∧ RdAt R (.slice (some ⟨b, o, none⟩) l.length cap) (uvR l p).2.1 w' ∧ Below R w w' := by
  by_cases hpc : p < cap
  · obtain ⟨V, N, h⟩ : ∃ V N, Lib.uvarintDec (l.drop p) = (V, N) := ⟨_, _, rfl⟩
    by_cases h0 : N ≤ 0
    · exact uvarint_none R b o cap l p w hp hcap hpc hm hc9 hr hd h h0
    · by_cases h1 : N = 1
      · exact uvarint_one R b o cap l p w hp hcap hpc hm hc9 hr hd h h1
      · by_cases hz : (l.getD (p + N.toNat - 1) 0).toNat = 0
        · exact uvarint_zero R b o cap l p w hp hcap hpc hm hc9 hr hd h (by omega) hz
        · exact uvarint_more R b o cap l p w hp hcap hpc hm hc9 hr hd h (by omega) hz
  · obtain rfl : p = l.length := by omega
    obtain rfl : cap = l.length := by omega
    exact uvarint_end R b o l w hm hr

theorem uvR_half (l : List UInt8) (p h : Nat) (hh : ¬ h < 15) :
    halfR l p h = if (uvR l p).2.2 = false then (0, (uvR l p).2.1, false) else if 18446744073709551600 < (uvR l p).1 then (0, (uvR l p).2.1, false) else (15 + (uvR l p).1, (uvR l p).2.1, true) := by
  unfold halfR uvR
  rw [if_neg hh]
  by_cases h0 : (Lib.uvarintDec (l.drop p)).2 ≤ 0
  · simp [h0]
  · by_cases hz : 1 < (Lib.uvarintDec (l.drop p)).2 ∧ (l.getD (p + (Lib.uvarintDec (l.drop p)).2.toNat - 1) 0).toNat = 0
    · rw [if_neg h0, if_neg h0, if_pos hz, if_pos hz]
      rfl
    · rw [if_neg h0, if_neg h0, if_neg hz, if_neg hz]
      rfl

theorem uvR_fst_lt (l : List UInt8) (p : Nat) : (uvR l p).1 < 18446744073709551616 := by
  unfold uvR
  split
  · simp only; omega
  · split
    · simp only; omega
    · exact Lib.uvarintDec_lt _

theorem uvR_pos_le (l : List UInt8) (p : Nat) (hp : p ≤ l.length) : (uvR l p).2.1 ≤ l.length := by
  have := dec_le l p hp
  unfold uvR
  split
  · exact hp
  · split
    · exact hp
    · simp only; omega

set_option maxHeartbeats 800000 in
/-- 'reader.half'. -/
theorem half_calls (R b o cap : Nat) (l : List UInt8) (p h : Nat) (w : World) (hp : p ≤ l.length) (hcap : l.length ≤ cap) (hm : l.length ≤ 1048576) (hc9 : cap ≤ 9223372036854775807)
    (hr : RdAt R (.slice (some ⟨b, o, none⟩) l.length cap) p w) (hd : DataIn b o l R w) :
    Calls Yba.prog 8 #[.pointer (some ⟨R, 0, none⟩), .int .u8 h] w fun e w' => e = .returned (.tuple #[.int .u64 (halfR l p h).1, .bool (halfR l p h).2.2]) ∧ RdAt R (.slice (some ⟨b, o, none⟩) l.length cap) (halfR l p h).2.1 w' ∧ Below R w w' := by
  by_cases hh : h < 15
  · have Hfin : Hid (halfR l p h = (h, p, true)) := halfR_small l p h hh
    have Hr : Hid (RdAt R (.slice (some ⟨b, o, none⟩) l.length cap) p w) := hr
    have hhi : (h : Int) < 15 := by omega
    clear hr hd
    go_enter Yba.func8, Yba.ntmps8
    go_wp2
    go_ret2
    exact ⟨ret_uv Hfin.out rfl, pos_uv Hfin.out Hr.out, Below.refl _ _⟩
  · have hu := uvarint_calls R b o cap l p w hp hcap hm hc9 hr hd
    have hhi : ¬ (h : Int) < 15 := by omega
    have hlt := uvR_fst_lt l p
    have Hfin := uvR_half l p h hh
    clear hr hd
    generalize uvR l p = r at hu hlt Hfin
    obtain ⟨V, q, ok⟩ := r
    simp only at hu hlt Hfin
    have Hu : Hid (Calls Yba.prog 9 #[.pointer (some ⟨R, 0, none⟩)] w fun e w' => e = .returned (.tuple #[.int .u64 V, .bool ok]) ∧ RdAt R (.slice (some ⟨b, o, none⟩) l.length cap) q w' ∧ Below R w w') := hu
    clear hu
    cases ok
    · have hf0 : halfR l p h = (0, q, false) := by simpa using Hfin
      have Hf : Hid (halfR l p h = (0, q, false)) := hf0
      clear hf0
      clear Hfin
      go_enter Yba.func8, Yba.ntmps8
      go_wp2_with (go_at_call 9; refine Hu.out.mono ?_; rintro e w1 ⟨rfl, hr1, hb1⟩)
      go_ret2
      exact ⟨ret_uv Hf.out rfl, pos_uv Hf.out hr1, hb1⟩
    · by_cases hbig : 18446744073709551600 < V
      · have hf0 : halfR l p h = (0, q, false) := by simpa [hbig] using Hfin
        have Hf : Hid (halfR l p h = (0, q, false)) := hf0
        clear hf0
        clear Hfin
        have hb2 : (18446744073709551600 : Int) < (V : Int) := by omega
        go_enter Yba.func8, Yba.ntmps8
        go_wp2_with (go_at_call 9; refine Hu.out.mono ?_; rintro e w1 ⟨rfl, hr1, hb1⟩)
        go_ret2
        exact ⟨ret_uv Hf.out rfl, pos_uv Hf.out hr1, hb1⟩
      · have hf0 : halfR l p h = (15 + V, q, true) := by simpa [hbig] using Hfin
        have Hf : Hid (halfR l p h = (15 + V, q, true)) := hf0
        clear hf0
        clear Hfin
        have hb2 : (V : Int) ≤ 18446744073709551600 := by omega
        go_enter Yba.func8, Yba.ntmps8
        go_wp2_with (go_at_call 9; refine Hu.out.mono ?_; rintro e w1 ⟨rfl, hr1, hb1⟩)
        go_ret2
        exact ⟨ret_uv Hf.out (by omega), pos_uv Hf.out hr1, hb1⟩
end Go.Proofs.Ybulkejju.lawS6780BWhole
