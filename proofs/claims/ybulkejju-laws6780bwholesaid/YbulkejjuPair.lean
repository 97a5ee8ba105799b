import Derived.Test.YbulkejjuReader
namespace Go.Proofs.Ybulkejju.lawS6780BWhole
open Go.RowKit Go.Proofs.Ybulkejju.Plain
set_option linter.unusedVariables false

theorem halfR_pos_le (l : List UInt8) (p h : Nat) (hp : p ≤ l.length) : (halfR l p h).2.1 ≤ l.length := by
  by_cases hh : h < 15
  · rw [halfR_small l p h hh]; exact hp
  · rw [uvR_half l p h hh]
    have := uvR_pos_le l p hp
    split
    · exact this
    · split
      · exact this
      · exact this

theorem halfR_fst_lt (l : List UInt8) (p h : Nat) : (halfR l p h).1 < 18446744073709551616 := by
  by_cases hh : h < 15
  · rw [halfR_small l p h hh]; simp only; omega
  · rw [uvR_half l p h hh]
    split
    · simp only; omega
    · split
      · simp only; omega
      · simp only; omega

/-- What 'escapedPair' comes to: the two numbers, whether both were well formed, and where it leaves off. -/
def pairR (l : List UInt8) (p : Nat) : Nat × Nat × Bool × Nat :=
  if p = l.length then (0, 0, false, p)
  else if (halfR l (p + 1) ((l.getD p 0).toNat / 16)).2.2 = false then (0, 0, false, (halfR l (p + 1) ((l.getD p 0).toNat / 16)).2.1)
  else ((halfR l (p + 1) ((l.getD p 0).toNat / 16)).1, (halfR l (halfR l (p + 1) ((l.getD p 0).toNat / 16)).2.1 ((l.getD p 0).toNat % 16)).1,
    (halfR l (halfR l (p + 1) ((l.getD p 0).toNat / 16)).2.1 ((l.getD p 0).toNat % 16)).2.2, (halfR l (halfR l (p + 1) ((l.getD p 0).toNat / 16)).2.1 ((l.getD p 0).toNat % 16)).2.1)

theorem ret_pair {r : Nat × Nat × Bool × Nat} {x y q : Nat} {c : Bool} (h : r = (x, y, c, q)) :
    Ending.returned (.tuple #[.int .u64 x, .int .u64 y, .bool c]) = .returned (.tuple #[.int .u64 r.1, .int .u64 r.2.1, .bool r.2.2.1]) := by
  subst h; rfl
theorem pos_pair {r : Nat × Nat × Bool × Nat} {x y q : Nat} {c : Bool} (h : r = (x, y, c, q)) {R : Nat} {d : Value} {w : World} (hr : RdAt R d q w) : RdAt R d r.2.2.2 w := by
  subst h; exact hr

set_option maxHeartbeats 800000 in
theorem pair_end (R : Nat) (ao : Option Addr) (l : List UInt8) (cap p : Nat) (w : World) (hp : p = l.length) (hm : l.length ≤ 1048576)
    (hr : RdAt R (.slice ao l.length cap) p w) :
    Calls Yba.prog 6 #[.pointer (some ⟨R, 0, none⟩)] w fun e w' => e = .returned (.tuple #[.int .u64 (pairR l p).1, .int .u64 (pairR l p).2.1, .bool (pairR l p).2.2.1]) ∧ RdAt R (.slice ao l.length cap) (pairR l p).2.2.2 w' ∧ Below R w w' := by
  subst hp
  have Hfin : Hid (pairR l l.length = (0, 0, false, l.length)) := by unfold pairR; exact if_pos rfl
  have Hr : Hid (RdAt R (.slice ao l.length cap) l.length w) := hr
  obtain ⟨c0, c1, f1⟩ := hr
  go_enter Yba.func6, Yba.ntmps6
  go_wp2
  go_quiet (fail)
  go_wp2
  go_ret3
  exact ⟨ret_pair Hfin.out, pos_pair Hfin.out (Hr.out.drewN _), below_drewN (Below.refl _ _) _⟩

/-- 'reader.half' at a known answer. -/
def HalfSaid (R b o cap : Nat) (l : List UInt8) (p h x q : Nat) (ok : Bool) : Prop :=
  ∀ W, RdAt R (.slice (some ⟨b, o, none⟩) l.length cap) p W → DataIn b o l R W →
    Calls Yba.prog 8 #[.pointer (some ⟨R, 0, none⟩), .int .u8 h] W fun e w' => e = .returned (.tuple #[.int .u64 x, .bool ok]) ∧ RdAt R (.slice (some ⟨b, o, none⟩) l.length cap) q w' ∧ Below R W w'
theorem half_said (R b o cap : Nat) (l : List UInt8) (p h x q : Nat) (ok : Bool) (hp : p ≤ l.length) (hcap : l.length ≤ cap) (hm : l.length ≤ 1048576) (hc9 : cap ≤ 9223372036854775807)
    (hx : halfR l p h = (x, q, ok)) : HalfSaid R b o cap l p h x q ok := by
  intro W hr hd
  have := half_calls R b o cap l p h W hp hcap hm hc9 hr hd
  rw [hx] at this
  exact this

set_option maxHeartbeats 800000 in
theorem pair_more (R b o cap : Nat) (l : List UInt8) (p : Nat) (w : World) (hp : p < l.length) (hcap : l.length ≤ cap) (hm : l.length ≤ 1048576) (hc9 : cap ≤ 9223372036854775807)
    (hr : RdAt R (.slice (some ⟨b, o, none⟩) l.length cap) p w) (hd : DataIn b o l R w) :
    Calls Yba.prog 6 #[.pointer (some ⟨R, 0, none⟩)] w fun e w' => e = .returned (.tuple #[.int .u64 (pairR l p).1, .int .u64 (pairR l p).2.1, .bool (pairR l p).2.2.1]) ∧ RdAt R (.slice (some ⟨b, o, none⟩) l.length cap) (pairR l p).2.2.2 w' ∧ Below R w w' := by
  have Hr : Hid (RdAt R (.slice (some ⟨b, o, none⟩) l.length cap) p w) := hr
  have Hd : Hid (DataIn b o l R w) := hd
  have hcl := hd.cell p hp
  have hz256 : (l.getD p 0).toNat < 256 := (l.getD p 0).toNat_lt
  have hpair : pairR l p = if (halfR l (p + 1) ((l.getD p 0).toNat / 16)).2.2 = false then (0, 0, false, (halfR l (p + 1) ((l.getD p 0).toNat / 16)).2.1)
    else ((halfR l (p + 1) ((l.getD p 0).toNat / 16)).1, (halfR l (halfR l (p + 1) ((l.getD p 0).toNat / 16)).2.1 ((l.getD p 0).toNat % 16)).1,
      (halfR l (halfR l (p + 1) ((l.getD p 0).toNat / 16)).2.1 ((l.getD p 0).toNat % 16)).2.2, (halfR l (halfR l (p + 1) ((l.getD p 0).toNat / 16)).2.1 ((l.getD p 0).toNat % 16)).2.1) := by
    unfold pairR; exact if_neg (by omega)
  generalize (l.getD p 0).toNat = z at hcl hz256 hpair
  have hq := halfR_pos_le l (p + 1) (z / 16) (by omega)
  obtain ⟨x, q, ok1, h1⟩ : ∃ x q ok1, halfR l (p + 1) (z / 16) = (x, q, ok1) := ⟨_, _, _, rfl⟩
  obtain ⟨y, q2, ok2, h2⟩ : ∃ y q2 ok2, halfR l q (z % 16) = (y, q2, ok2) := ⟨_, _, _, rfl⟩
  rw [h1] at hpair hq
  simp only at hpair hq
  rw [h2] at hpair
  simp only at hpair
  have s1 := half_said R b o cap l (p + 1) (z / 16) x q ok1 (by omega) hcap hm hc9 h1
  have s2 := half_said R b o cap l q (z % 16) y q2 ok2 hq hcap hm hc9 h2
  have hi : (p : Int) < (l.length : Int) := by omega
  have hne : ((p : Int) == (l.length : Int)) = false := by simp; omega
  obtain ⟨c0, c1, f1⟩ := hr
  clear hd h1 h2
  cases ok1
  · have Hfin : Hid (pairR l p = (0, 0, false, q)) := hpair
    clear hpair
    go_enter Yba.func6, Yba.ntmps6
    go_wp2
    go_quiet (fail)
    go_wp2
    go_quiet (fail)
    go_wp2_with fail
    rw [show ((z : Int) / 16) = ((z / 16 : Nat) : Int) by omega]
    refine (s1 _ ((Hr.out.drewN _).movedTo (by omega)) (Hd.out.below ((below_drewN (Below.refl R _) _).setCell (p := ⟨R, 1, none⟩) (Nat.le_refl R) _))).mono ?_
    rintro e w1 ⟨rfl, hr1, hb1⟩
    go_wp2
    go_ret3
    exact ⟨ret_pair Hfin.out, pos_pair Hfin.out hr1, ((below_drewN (Below.refl R _) _).setCell (p := ⟨R, 1, none⟩) (Nat.le_refl R) _).trans hb1⟩
  · have Hfin : Hid (pairR l p = (x, y, ok2, q2)) := hpair
    clear hpair
    go_enter Yba.func6, Yba.ntmps6
    go_wp2
    go_quiet (fail)
    go_wp2
    go_quiet (fail)
    go_wp2_with fail
    rw [show ((z : Int) / 16) = ((z / 16 : Nat) : Int) by omega]
    refine (s1 _ ((Hr.out.drewN _).movedTo (by omega)) (Hd.out.below ((below_drewN (Below.refl R _) _).setCell (p := ⟨R, 1, none⟩) (Nat.le_refl R) _))).mono ?_
    rintro e w1 ⟨rfl, hr1, hb1⟩
    go_wp2_with fail
    rw [show ((z : Int) % 16) = ((z % 16 : Nat) : Int) by omega]
    refine (s2 _ hr1 (Hd.out.below (((below_drewN (Below.refl R _) _).setCell (p := ⟨R, 1, none⟩) (Nat.le_refl R) _).trans hb1))).mono ?_
    rintro e w2 ⟨rfl, hr2, hb2⟩
    go_wp2
    go_ret3
    exact ⟨ret_pair Hfin.out, pos_pair Hfin.out hr2, (((below_drewN (Below.refl R _) _).setCell (p := ⟨R, 1, none⟩) (Nat.le_refl R) _).trans hb1).trans hb2⟩
end Go.Proofs.Ybulkejju.lawS6780BWhole
