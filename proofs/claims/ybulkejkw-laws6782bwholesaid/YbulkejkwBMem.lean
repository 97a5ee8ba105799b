import Derived.Test.YbulkejkwRows
import Derived.WalkKit
import Derived.WalkSpells
import Derived.WalkLawsBesides
namespace Go.Proofs.Ybulkejkw.lawS6782BWhole
open Go.RowKit
set_option linter.unusedVariables false

/-- What stands at 'b' behind a list of writes, the latest first. -/
def look : List (Addr × Value) → Addr → Option Value → Option Value
  | [], _, d => d
  | (a, v) :: r, b, d => if a = b then some v else look r b d

/-- w' is w with the writes L (the latest first), and draws. -/
structure Upd (N : Nat) (w w' : World) (L : List (Addr × Value)) : Prop where
  cell : ∀ b, w'.cell? b = look L b (w.cell? b)
  frozen : ∀ b, w'.frozen? b = w.frozen? b
  size : w'.heap.size = w.heap.size
  below : Below N w w'

theorem Upd.refl (N : Nat) (w : World) : Upd N w w [] := ⟨fun _ => rfl, fun _ => rfl, rfl, Below.refl _ _⟩

theorem look_isSome : ∀ (L : List (Addr × Value)) (b : Addr) (d : Option Value), d.isSome = true → (look L b d).isSome = true
  | [], _, _, h => h
  | (a, v) :: r, b, d, h => by
    unfold look
    split
    · rfl
    · exact look_isSome r b d h

theorem size_setCell (w : World) (a : Addr) (v : Value) : (w.setCell a v).heap.size = w.heap.size := by
  unfold World.setCell
  simp

theorem Upd.setCell {N : Nat} {w w' : World} {L : List (Addr × Value)} (h : Upd N w w' L) {a : Addr} (hs : (w.cell? a).isSome = true) (hN : N ≤ a.block) (v : Value) : Upd N w (w'.setCell a v) ((a, v) :: L) := by
  have hs' : (w'.cell? a).isSome = true := by rw [h.cell a]; exact look_isSome L a _ hs
  obtain ⟨u, hu⟩ := Option.isSome_iff_exists.1 hs'
  refine ⟨fun b => ?_, fun b => ?_, ?_, ?_⟩
  · unfold look
    by_cases hab : a = b
    · subst hab
      rw [if_pos rfl]
      exact World.cell?_setCell_same _ _ _ hu
    · rw [if_neg hab, World.cell?_setCell_other _ _ _ _ hab]
      exact h.cell b
  · rw [World.frozen?_setCell]; exact h.frozen b
  · rw [size_setCell]; exact h.size
  · exact h.below.setCell hN v

theorem Upd.drewN {N : Nat} {w w' : World} {L : List (Addr × Value)} (h : Upd N w w' L) (q : Nat) : Upd N w (w'.drewN q) L :=
  ⟨h.cell, h.frozen, h.size, below_drewN h.below q⟩
theorem Upd.drew {N : Nat} {w w' : World} {L : List (Addr × Value)} (h : Upd N w w' L) : Upd N w w'.drew L :=
  ⟨h.cell, h.frozen, h.size, h.below.drew⟩

/-- The head of a member's block. -/
def at0 (b : Nat) : Addr := ⟨b, 0, none⟩

set_option maxHeartbeats 400000 in
/-- 'push' onto an empty roll. -/
theorem push_empty (R m : Nat) (n : Int) (w : World) (v0 v1 : Value) (N : Nat) (hR : N ≤ R) (hm : N ≤ m) (hne : R ≠ m)
    (r0 : w.cell? ⟨R, 0, none⟩ = some v0) (r1 : w.cell? ⟨R, 1, none⟩ = some (.pointer none)) (r2 : w.cell? ⟨R, 2, none⟩ = some (.int .i64 n)) (m1 : w.cell? ⟨m, 1, none⟩ = some v1)
    (fR : ∀ i, w.frozen? ⟨R, i, none⟩ = false) (fm : ∀ i, w.frozen? ⟨m, i, none⟩ = false) :
    Calls Yba.prog 20 #[.pointer (some ⟨R, 0, none⟩), .pointer (some ⟨m, 0, none⟩)] w fun e w' => e = .returned (.tuple #[]) ∧
      Upd N w w' [(⟨R, 2, none⟩, .int .i64 (wrap64 (n + 1))), (⟨R, 1, none⟩, .pointer (some ⟨m, 0, none⟩)), (⟨R, 0, none⟩, .pointer (some ⟨m, 0, none⟩)), (⟨m, 1, none⟩, .pointer none)] := by
  have hne' : ¬ m = R := fun h => hne h.symm
  go_enter Yba.func20, Yba.ntmps20
  go_wp2
  go_end0
  exact ⟨rfl, ((((Upd.refl N w).setCell (by rw [m1]; rfl) hm _).setCell (by rw [r0]; rfl) hR _).setCell (by rw [r1]; rfl) hR _).setCell (by rw [r2]; rfl) hR _⟩

set_option maxHeartbeats 400000 in
/-- 'push' behind a last member l. -/
theorem push_more (R m l : Nat) (n : Int) (w : World) (v1 v2 : Value) (N : Nat) (hR : N ≤ R) (hm : N ≤ m) (hl : N ≤ l) (hne : R ≠ m) (hnl : R ≠ l) (hlm : l ≠ m)
    (r1 : w.cell? ⟨R, 1, none⟩ = some (.pointer (some ⟨l, 0, none⟩))) (r2 : w.cell? ⟨R, 2, none⟩ = some (.int .i64 n)) (m1 : w.cell? ⟨m, 1, none⟩ = some v1) (l2 : w.cell? ⟨l, 2, none⟩ = some v2)
    (fR : ∀ i, w.frozen? ⟨R, i, none⟩ = false) (fm : ∀ i, w.frozen? ⟨m, i, none⟩ = false) (fl : ∀ i, w.frozen? ⟨l, i, none⟩ = false) :
    Calls Yba.prog 20 #[.pointer (some ⟨R, 0, none⟩), .pointer (some ⟨m, 0, none⟩)] w fun e w' => e = .returned (.tuple #[]) ∧
      Upd N w w' [(⟨R, 2, none⟩, .int .i64 (wrap64 (n + 1))), (⟨R, 1, none⟩, .pointer (some ⟨m, 0, none⟩)), (⟨l, 2, none⟩, .pointer (some ⟨m, 0, none⟩)), (⟨m, 1, none⟩, .pointer (some ⟨l, 0, none⟩))] := by
  have h1 : ¬ m = R := fun h => hne h.symm
  have h2 : ¬ l = R := fun h => hnl h.symm
  have h3 : ¬ m = l := fun h => hlm h.symm
  go_enter Yba.func20, Yba.ntmps20
  go_wp2
  go_end0
  exact ⟨rfl, ((((Upd.refl N w).setCell (by rw [m1]; rfl) hm _).setCell (by rw [l2]; rfl) hl _).setCell (by rw [r1]; rfl) hR _).setCell (by rw [r2]; rfl) hR _⟩

/-- Where 'remove' writes the next member: into the one before, or into the roll's head. -/
def linkP (R : Nat) : Option Nat → Addr
  | none => ⟨R, 0, none⟩
  | some p => ⟨p, 2, none⟩
/-- Where 'remove' writes the member before: into the next one, or into the roll's last. -/
def linkN (R : Nat) : Option Nat → Addr
  | none => ⟨R, 1, none⟩
  | some q => ⟨q, 1, none⟩
def optp (o : Option Nat) : Option Addr := o.map at0

set_option maxHeartbeats 800000 in
theorem remove_nn (R m : Nat) (n : Int) (w : World) (v0 v1 : Value) (N : Nat) (hR : N ≤ R) (hm : N ≤ m) (hne : R ≠ m)
    (a1 : w.cell? ⟨R, 0, none⟩ = some v0) (a2 : w.cell? ⟨R, 1, none⟩ = some v1) (r2 : w.cell? ⟨R, 2, none⟩ = some (.int .i64 n)) (m1 : w.cell? ⟨m, 1, none⟩ = some (.pointer none)) (m2 : w.cell? ⟨m, 2, none⟩ = some (.pointer none))
    (fR : ∀ i, w.frozen? ⟨R, i, none⟩ = false) (fm : ∀ i, w.frozen? ⟨m, i, none⟩ = false) :
    Calls Yba.prog 17 #[.pointer (some ⟨R, 0, none⟩), .pointer (some ⟨m, 0, none⟩)] w fun e w' => e = .returned (.tuple #[]) ∧
      Upd N w w' [(⟨R, 2, none⟩, .int .i64 (wrap64 (n - 1))), (⟨m, 2, none⟩, .pointer none), (⟨m, 1, none⟩, .pointer none), (⟨R, 1, none⟩, .pointer none), (⟨R, 0, none⟩, .pointer none)] := by
  have h1 : ¬ m = R := fun h => hne h.symm
  go_enter Yba.func17, Yba.ntmps17
  go_wp2
  go_end0
  exact ⟨rfl, ((((((Upd.refl N w).setCell (by rw [a1]; rfl) hR _).setCell (by rw [a2]; rfl) hR _).setCell (by rw [m1]; rfl) hm _).setCell (by rw [m2]; rfl) hm _).setCell (by rw [r2]; rfl) hR _)⟩

set_option maxHeartbeats 800000 in
theorem remove_ns (R m q : Nat) (n : Int) (w : World) (v0 v1 : Value) (N : Nat) (hR : N ≤ R) (hm : N ≤ m) (hne : R ≠ m) (hq : N ≤ q) (hqm : q ≠ m) (hqR : q ≠ R)
    (a1 : w.cell? ⟨R, 0, none⟩ = some v0) (a2 : w.cell? ⟨q, 1, none⟩ = some v1) (r2 : w.cell? ⟨R, 2, none⟩ = some (.int .i64 n)) (m1 : w.cell? ⟨m, 1, none⟩ = some (.pointer none)) (m2 : w.cell? ⟨m, 2, none⟩ = some (.pointer (some ⟨q, 0, none⟩)))
    (fR : ∀ i, w.frozen? ⟨R, i, none⟩ = false) (fm : ∀ i, w.frozen? ⟨m, i, none⟩ = false) (fq : ∀ i, w.frozen? ⟨q, i, none⟩ = false) :
    Calls Yba.prog 17 #[.pointer (some ⟨R, 0, none⟩), .pointer (some ⟨m, 0, none⟩)] w fun e w' => e = .returned (.tuple #[]) ∧
      Upd N w w' [(⟨R, 2, none⟩, .int .i64 (wrap64 (n - 1))), (⟨m, 2, none⟩, .pointer none), (⟨m, 1, none⟩, .pointer none), (⟨q, 1, none⟩, .pointer none), (⟨R, 0, none⟩, .pointer (some ⟨q, 0, none⟩))] := by
  have h1 : ¬ m = R := fun h => hne h.symm
  have h3 : ¬ m = q := fun h => hqm h.symm
  have h5 : ¬ R = q := fun h => hqR h.symm
  go_enter Yba.func17, Yba.ntmps17
  go_wp2
  go_region
  go_wp2
  go_end0
  exact ⟨rfl, ((((((Upd.refl N w).setCell (by rw [a1]; rfl) hR _).setCell (by rw [a2]; rfl) hq _).setCell (by rw [m1]; rfl) hm _).setCell (by rw [m2]; rfl) hm _).setCell (by rw [r2]; rfl) hR _).drew⟩

set_option maxHeartbeats 800000 in
theorem remove_sn (R m p : Nat) (n : Int) (w : World) (v0 v1 : Value) (N : Nat) (hR : N ≤ R) (hm : N ≤ m) (hne : R ≠ m) (hp : N ≤ p) (hpm : p ≠ m) (hpR : p ≠ R)
    (a1 : w.cell? ⟨p, 2, none⟩ = some v0) (a2 : w.cell? ⟨R, 1, none⟩ = some v1) (r2 : w.cell? ⟨R, 2, none⟩ = some (.int .i64 n)) (m1 : w.cell? ⟨m, 1, none⟩ = some (.pointer (some ⟨p, 0, none⟩))) (m2 : w.cell? ⟨m, 2, none⟩ = some (.pointer none))
    (fR : ∀ i, w.frozen? ⟨R, i, none⟩ = false) (fm : ∀ i, w.frozen? ⟨m, i, none⟩ = false) (fp : ∀ i, w.frozen? ⟨p, i, none⟩ = false) :
    Calls Yba.prog 17 #[.pointer (some ⟨R, 0, none⟩), .pointer (some ⟨m, 0, none⟩)] w fun e w' => e = .returned (.tuple #[]) ∧
      Upd N w w' [(⟨R, 2, none⟩, .int .i64 (wrap64 (n - 1))), (⟨m, 2, none⟩, .pointer none), (⟨m, 1, none⟩, .pointer none), (⟨R, 1, none⟩, .pointer (some ⟨p, 0, none⟩)), (⟨p, 2, none⟩, .pointer none)] := by
  have h1 : ¬ m = R := fun h => hne h.symm
  have h2 : ¬ m = p := fun h => hpm h.symm
  have h4 : ¬ R = p := fun h => hpR h.symm
  go_enter Yba.func17, Yba.ntmps17
  go_wp2
  go_region
  go_wp2
  go_end0
  exact ⟨rfl, ((((((Upd.refl N w).setCell (by rw [a1]; rfl) hp _).setCell (by rw [a2]; rfl) hR _).setCell (by rw [m1]; rfl) hm _).setCell (by rw [m2]; rfl) hm _).setCell (by rw [r2]; rfl) hR _).drew⟩

set_option maxHeartbeats 800000 in
theorem remove_ss (R m p q : Nat) (n : Int) (w : World) (v0 v1 : Value) (N : Nat) (hR : N ≤ R) (hm : N ≤ m) (hne : R ≠ m) (hp : N ≤ p) (hpm : p ≠ m) (hpR : p ≠ R) (hq : N ≤ q) (hqm : q ≠ m) (hqR : q ≠ R) (hpq : p ≠ q)
    (a1 : w.cell? ⟨p, 2, none⟩ = some v0) (a2 : w.cell? ⟨q, 1, none⟩ = some v1) (r2 : w.cell? ⟨R, 2, none⟩ = some (.int .i64 n)) (m1 : w.cell? ⟨m, 1, none⟩ = some (.pointer (some ⟨p, 0, none⟩))) (m2 : w.cell? ⟨m, 2, none⟩ = some (.pointer (some ⟨q, 0, none⟩)))
    (fR : ∀ i, w.frozen? ⟨R, i, none⟩ = false) (fm : ∀ i, w.frozen? ⟨m, i, none⟩ = false) (fp : ∀ i, w.frozen? ⟨p, i, none⟩ = false) (fq : ∀ i, w.frozen? ⟨q, i, none⟩ = false) :
    Calls Yba.prog 17 #[.pointer (some ⟨R, 0, none⟩), .pointer (some ⟨m, 0, none⟩)] w fun e w' => e = .returned (.tuple #[]) ∧
      Upd N w w' [(⟨R, 2, none⟩, .int .i64 (wrap64 (n - 1))), (⟨m, 2, none⟩, .pointer none), (⟨m, 1, none⟩, .pointer none), (⟨q, 1, none⟩, .pointer (some ⟨p, 0, none⟩)), (⟨p, 2, none⟩, .pointer (some ⟨q, 0, none⟩))] := by
  have h1 : ¬ m = R := fun h => hne h.symm
  have h2 : ¬ m = p := fun h => hpm h.symm
  have h4 : ¬ R = p := fun h => hpR h.symm
  have h3 : ¬ m = q := fun h => hqm h.symm
  have h5 : ¬ R = q := fun h => hqR h.symm
  have h6 : ¬ q = p := fun h => hpq h.symm
  go_enter Yba.func17, Yba.ntmps17
  go_wp2
  go_region
  go_wp2
  go_region
  go_wp2
  go_end0
  exact ⟨rfl, ((((((Upd.refl N w).setCell (by rw [a1]; rfl) hp _).setCell (by rw [a2]; rfl) hq _).setCell (by rw [m1]; rfl) hm _).setCell (by rw [m2]; rfl) hm _).setCell (by rw [r2]; rfl) hR _).drew.drew⟩

/-- 'remove', whoever stands before and behind. -/
theorem remove_calls (R m : Nat) (pv nx : Option Nat) (n : Int) (w : World) (N : Nat) (hR : N ≤ R) (hm : N ≤ m) (hne : R ≠ m)
    (hp : ∀ p, pv = some p → N ≤ p ∧ p ≠ m ∧ p ≠ R) (hq : ∀ q, nx = some q → N ≤ q ∧ q ≠ m ∧ q ≠ R) (hpq : ∀ p q, pv = some p → nx = some q → p ≠ q)
    (a1 : (w.cell? (linkP R pv)).isSome = true) (a2 : (w.cell? (linkN R nx)).isSome = true) (r2 : w.cell? ⟨R, 2, none⟩ = some (.int .i64 n))
    (m1 : w.cell? ⟨m, 1, none⟩ = some (.pointer (optp pv))) (m2 : w.cell? ⟨m, 2, none⟩ = some (.pointer (optp nx))) (fz : ∀ b i, N ≤ b → w.frozen? ⟨b, i, none⟩ = false) :
    Calls Yba.prog 17 #[.pointer (some ⟨R, 0, none⟩), .pointer (some ⟨m, 0, none⟩)] w fun e w' => e = .returned (.tuple #[]) ∧
      Upd N w w' [(⟨R, 2, none⟩, .int .i64 (wrap64 (n - 1))), (⟨m, 2, none⟩, .pointer none), (⟨m, 1, none⟩, .pointer none), (linkN R nx, .pointer (optp pv)), (linkP R pv, .pointer (optp nx))] := by
  obtain ⟨v0, hv0⟩ := Option.isSome_iff_exists.1 a1
  obtain ⟨v1, hv1⟩ := Option.isSome_iff_exists.1 a2
  cases pv with
  | none =>
    cases nx with
    | none => exact remove_nn R m n w v0 v1 N hR hm hne hv0 hv1 r2 m1 m2 (fun i => fz R i hR) (fun i => fz m i hm)
    | some q =>
      obtain ⟨q1, q2, q3⟩ := hq q rfl
      exact remove_ns R m q n w v0 v1 N hR hm hne q1 q2 q3 hv0 hv1 r2 m1 m2 (fun i => fz R i hR) (fun i => fz m i hm) (fun i => fz q i q1)
  | some p =>
    obtain ⟨p1, p2, p3⟩ := hp p rfl
    cases nx with
    | none => exact remove_sn R m p n w v0 v1 N hR hm hne p1 p2 p3 hv0 hv1 r2 m1 m2 (fun i => fz R i hR) (fun i => fz m i hm) (fun i => fz p i p1)
    | some q =>
      obtain ⟨q1, q2, q3⟩ := hq q rfl
      exact remove_ss R m p q n w v0 v1 N hR hm hne p1 p2 p3 q1 q2 q3 (hpq p q rfl rfl) hv0 hv1 r2 m1 m2 (fun i => fz R i hR) (fun i => fz m i hm) (fun i => fz p i p1) (fun i => fz q i q1)

/-- Where 'push' links the new member in. -/
def linkL (R : Nat) : Option Nat → Addr
  | none => ⟨R, 0, none⟩
  | some l => ⟨l, 2, none⟩

/-- 'push', whoever stands last. -/
theorem push_calls (R m : Nat) (ls : Option Nat) (n : Int) (w : World) (N : Nat) (hR : N ≤ R) (hm : N ≤ m) (hne : R ≠ m)
    (hl : ∀ l, ls = some l → N ≤ l ∧ l ≠ m ∧ l ≠ R) (a1 : (w.cell? (linkL R ls)).isSome = true) (b1 : (w.cell? ⟨m, 1, none⟩).isSome = true)
    (r1 : w.cell? ⟨R, 1, none⟩ = some (.pointer (optp ls))) (r2 : w.cell? ⟨R, 2, none⟩ = some (.int .i64 n)) (fz : ∀ b i, N ≤ b → w.frozen? ⟨b, i, none⟩ = false) :
    Calls Yba.prog 20 #[.pointer (some ⟨R, 0, none⟩), .pointer (some ⟨m, 0, none⟩)] w fun e w' => e = .returned (.tuple #[]) ∧
      Upd N w w' [(⟨R, 2, none⟩, .int .i64 (wrap64 (n + 1))), (⟨R, 1, none⟩, .pointer (some ⟨m, 0, none⟩)), (linkL R ls, .pointer (some ⟨m, 0, none⟩)), (⟨m, 1, none⟩, .pointer (optp ls))] := by
  obtain ⟨v0, hv0⟩ := Option.isSome_iff_exists.1 a1
  obtain ⟨v1, hv1⟩ := Option.isSome_iff_exists.1 b1
  cases ls with
  | none => exact push_empty R m n w v0 v1 N hR hm hne hv0 r1 r2 hv1 (fun i => fz R i hR) (fun i => fz m i hm)
  | some l =>
    obtain ⟨l1, l2, l3⟩ := hl l rfl
    exact push_more R m l n w v1 v0 N hR hm l1 hne (fun h => l3 h.symm) l2 r1 r2 hv1 hv0 (fun i => fz R i hR) (fun i => fz m i hm) (fun i => fz l i l1)
end Go.Proofs.Ybulkejkw.lawS6782BWhole
