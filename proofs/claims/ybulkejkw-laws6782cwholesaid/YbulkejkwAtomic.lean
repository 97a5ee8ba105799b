import Derived.Test.YbulkejkwRows
import Derived.WalkKit
import Derived.WalkSpells
import Derived.WalkLawsBesides
import Derived.Laws.Pointers
namespace Go.Proofs.Ybulkejkw.lawS6782CWhole
open Go.RowKit
set_option linter.unusedVariables false

/-- What a short operation asks of the world, and what it stores: shapes, marks of frozen cells, cells; at the end at most one store. -/
structure Tr (α : Type) where
  val : α
  sh : List Nat
  fr : List Addr
  ld : List Addr
  st : List (Addr × Value)

def Tr.quiet {α : Type} (t : Tr α) : Bool := t.sh.isEmpty && t.fr.isEmpty && t.ld.isEmpty && t.st.isEmpty

/-- The operation's run where every shape asked for is 'o', no cell asked for is frozen, and every cell asked for holds 'v'. -/
def ans {α : Type} (P : Program) (o : Option (TypeId × Nat)) (v : Value) : Sem α → Option (Tr α)
  | .pure a => some ⟨a, [], [], [], []⟩
  | .shape r k => (ans P o v (k o)).map fun t => { t with sh := r :: t.sh }
  | .frozen a k => (ans P o v (k false)).map fun t => { t with fr := a :: t.fr }
  | .load _ a k => (ans P o v (k v)).map fun t => { t with ld := a :: t.ld }
  | .store _ a x k => (ans P o v k).bind fun t => if t.quiet = true then some { t with st := [(a, x)] } else none
  | .program k => ans P o v (k P)
  | .mark _ k => ans P o v k
  | _ => none

/-- What the world must be for that. -/
def Fits {α : Type} (o : Option (TypeId × Nat)) (v : Value) (t : Tr α) (w : World) : Prop :=
  (∀ r ∈ t.sh, w.shape? r = o) ∧ (∀ a ∈ t.fr, w.frozen? a = false) ∧ (∀ a ∈ t.ld, w.cell? a = some v) ∧
    ∀ p ∈ t.st, (w.cell? p.1).isSome = true ∧ w.frozen? p.1 = false ∧ p.2.oneCell' = true

/-- The world behind. -/
def Tr.after {α : Type} (t : Tr α) (w : World) : World :=
  match t.st with
  | [] => w
  | p :: _ => w.setCell p.1 p.2

theorem ans_run {α : Type} (P : Program) (o : Option (TypeId × Nat)) (v : Value) : ∀ (m : Sem α) (w : World) (t : Tr α), ans P o v m = some t → Fits o v t w → m.run P w = .ok t.val (t.after w) := by
  intro m
  induction m with
  | pure a =>
    intro w t h _
    simp only [ans, Option.some.injEq] at h
    subst h
    rfl
  | shape r k ih =>
    intro w t h hf
    simp only [ans, Option.map_eq_some_iff] at h
    obtain ⟨t', h', rfl⟩ := h
    have hr : w.shape? r = o := hf.1 r (by simp)
    show (k (w.shape? r)).run P w = _
    rw [hr]
    exact ih o w t' h' ⟨fun x hx => hf.1 x (by simp [hx]), hf.2.1, hf.2.2.1, hf.2.2.2⟩
  | frozen a k ih =>
    intro w t h hf
    simp only [ans, Option.map_eq_some_iff] at h
    obtain ⟨t', h', rfl⟩ := h
    have hr : w.frozen? a = false := hf.2.1 a (by simp)
    show (k (w.frozen? a)).run P w = _
    rw [hr]
    exact ih false w t' h' ⟨hf.1, fun x hx => hf.2.1 x (by simp [hx]), hf.2.2.1, hf.2.2.2⟩
  | load m a k ih =>
    intro w t h hf
    simp only [ans, Option.map_eq_some_iff] at h
    obtain ⟨t', h', rfl⟩ := h
    have hr : w.cell? a = some v := hf.2.2.1 a (by simp)
    have := ih v w t' h' ⟨hf.1, hf.2.1, fun x hx => hf.2.2.1 x (by simp [hx]), hf.2.2.2⟩
    simp only [Sem.run, hr]
    exact this
  | store m a x k ih =>
    intro w t h hf
    simp only [ans, Option.bind_eq_some_iff] at h
    obtain ⟨t', h', h2⟩ := h
    split at h2
    · rename_i hq
      simp only [Option.some.injEq] at h2
      subst h2
      simp only [Tr.quiet, Bool.and_eq_true, List.isEmpty_iff] at hq
      obtain ⟨⟨⟨q1, q2⟩, q3⟩, q4⟩ := hq
      obtain ⟨hs, hz, h1⟩ := hf.2.2.2 (a, x) (by simp)
      have hk := ih (w.setCell a x) t' h' ⟨by simp [q1], by simp [q2], by simp [q3], by simp [q4]⟩
      have ha : t'.after (w.setCell a x) = w.setCell a x := by unfold Tr.after; rw [q4]
      rw [ha] at hk
      obtain ⟨u, hu⟩ := Option.isSome_iff_exists.1 hs
      have hrun : Sem.run P (Sem.store m a x k) w = Sem.run P k (w.setCell a x) := by
        cases x <;> first | (simp [Value.oneCell'] at h1; done) | (simp only [Sem.run, hu, hz]; rfl)
      rw [hrun, hk]
      rfl
    · cases h2
  | program k ih =>
    intro w t h hf
    simp only [ans] at h
    exact ih P w t h hf
  | mark m k ih =>
    intro w t h hf
    simp only [ans] at h
    exact ih w t h hf
  | _ => intro w t h; simp [ans] at h

theorem store64 {B i : Nat} {y : Int} {u : Value} {w : World} (hc : w.cell? ⟨B, i, none⟩ = some u) (hz : w.frozen? ⟨B, i, none⟩ = false) :
    (callFunc 40 #[.pointer (some ⟨B, i, none⟩), .int .u64 y]).run Yba.prog w = .ok (.value (.tuple #[])) (w.setCell ⟨B, i, none⟩ (.int .u64 y)) :=
  ans_run Yba.prog none (.bool false) _ w ⟨Next.value (.tuple #[]), [], [], [], [(⟨B, i, none⟩, .int .u64 y)]⟩ (by kernel_rfl) ⟨by simp, by simp, by simp, by simp [hc, hz, Value.oneCell']⟩
theorem load64 {B i : Nat} {x : Int} {w : World} (hc : w.cell? ⟨B, i, none⟩ = some (.int .u64 x)) :
    (callFunc 39 #[.pointer (some ⟨B, i, none⟩)]).run Yba.prog w = .ok (.value (.int .u64 x)) w :=
  ans_run Yba.prog none (.int .u64 x) _ w ⟨Next.value (.int .u64 x), [], [], [⟨B, i, none⟩], []⟩ (by kernel_rfl) ⟨by simp, by simp, by simp [hc], by simp⟩
theorem storeP {B i : Nat} {y : Option Addr} {u : Value} {w : World} (hc : w.cell? ⟨B, i, none⟩ = some u) (hz : w.frozen? ⟨B, i, none⟩ = false) :
    (callFunc 41 #[.pointer (some ⟨B, i, none⟩), .pointer y]).run Yba.prog w = .ok (.value (.tuple #[])) (w.setCell ⟨B, i, none⟩ (.pointer y)) :=
  ans_run Yba.prog none (.bool false) _ w ⟨Next.value (.tuple #[]), [], [], [], [(⟨B, i, none⟩, .pointer y)]⟩ (by kernel_rfl) ⟨by simp, by simp, by simp, by simp [hc, hz, Value.oneCell']⟩
theorem loadP {B i : Nat} {p : Option Addr} {w : World} (hc : w.cell? ⟨B, i, none⟩ = some (.pointer p)) :
    (callFunc 43 #[.pointer (some ⟨B, i, none⟩)]).run Yba.prog w = .ok (.value (.pointer p)) w :=
  ans_run Yba.prog none (.pointer p) _ w ⟨Next.value (.pointer p), [], [], [⟨B, i, none⟩], []⟩ (by kernel_rfl) ⟨by simp, by simp, by simp [hc], by simp⟩
theorem casP_hit {B i : Nat} {y : Option Addr} {w : World} (hs : w.shape? B = some (41, 59)) (hc : w.cell? ⟨B, i, none⟩ = some (.pointer none)) (hz : w.frozen? ⟨B, i, none⟩ = false) :
    (callFunc 63 #[.pointer (some ⟨B, i, none⟩), .pointer none, .pointer y]).run Yba.prog w = .ok (.value (.bool true)) (w.setCell ⟨B, i, none⟩ (.pointer y)) :=
  ans_run Yba.prog (some (41, 59)) (.pointer none) _ w ⟨Next.value (.bool true), [B], [⟨B, i, none⟩], [⟨B, i, none⟩], [(⟨B, i, none⟩, .pointer y)]⟩ (by kernel_rfl) ⟨by simp [hs], by simp [hz], by simp [hc], by simp [hc, hz, Value.oneCell']⟩
theorem casP_miss {B i : Nat} {b : Addr} {y : Option Addr} {w : World} (hs : w.shape? B = some (41, 59)) (hc : w.cell? ⟨B, i, none⟩ = some (.pointer (some b))) (hz : w.frozen? ⟨B, i, none⟩ = false) :
    (callFunc 63 #[.pointer (some ⟨B, i, none⟩), .pointer none, .pointer y]).run Yba.prog w = .ok (.value (.bool false)) w :=
  ans_run Yba.prog (some (41, 59)) (.pointer (some b)) _ w ⟨Next.value (.bool false), [B], [⟨B, i, none⟩], [⟨B, i, none⟩], []⟩ (by kernel_rfl) ⟨by simp [hs], by simp [hz], by simp [hc], by simp⟩

/-! A pointer to a Group, or to an annex, turned into the library's bare pointer and back. -/
theorem conv_to (B : Nat) {w : World} (hs : w.shape? B = some (41, 59)) : (convert 31 33 (.pointer (some ⟨B, 0, none⟩))).run Yba.prog w = .ok (.pointer (some ⟨B, 0, none⟩)) w :=
  ans_run Yba.prog (some (41, 59)) (.bool false) _ w ⟨Value.pointer (some ⟨B, 0, none⟩), [B, B], [], [], []⟩ (by kernel_rfl) ⟨by simp [hs], by simp, by simp, by simp⟩
theorem conv_to_nil (w : World) : (convert 31 33 (.pointer none)).run Yba.prog w = .ok (.pointer none) w := by kernel_rfl
theorem conv_back (B : Nat) {w : World} (hs : w.shape? B = some (41, 59)) : (convert 33 31 (.pointer (some ⟨B, 0, none⟩))).run Yba.prog w = .ok (.pointer (some ⟨B, 0, none⟩)) w :=
  ans_run Yba.prog (some (41, 59)) (.bool false) _ w ⟨Value.pointer (some ⟨B, 0, none⟩), [B, B], [], [], []⟩ (by kernel_rfl) ⟨by simp [hs], by simp, by simp, by simp⟩
theorem conv_annex_to (A : Nat) {w : World} (hs : w.shape? A = some (78, 6)) : (convert 36 33 (.pointer (some ⟨A, 0, none⟩))).run Yba.prog w = .ok (.pointer (some ⟨A, 0, none⟩)) w :=
  ans_run Yba.prog (some (78, 6)) (.bool false) _ w ⟨Value.pointer (some ⟨A, 0, none⟩), [A, A], [], [], []⟩ (by kernel_rfl) ⟨by simp [hs], by simp, by simp, by simp⟩
theorem conv_annex_nil (w : World) : (convert 33 36 (.pointer none)).run Yba.prog w = .ok (.pointer none) w := by kernel_rfl
theorem conv_annex_back (A : Nat) {w : World} (hs : w.shape? A = some (78, 6)) : (convert 33 36 (.pointer (some ⟨A, 0, none⟩))).run Yba.prog w = .ok (.pointer (some ⟨A, 0, none⟩)) w :=
  ans_run Yba.prog (some (78, 6)) (.bool false) _ w ⟨Value.pointer (some ⟨A, 0, none⟩), [A, A], [], [], []⟩ (by kernel_rfl) ⟨by simp [hs], by simp, by simp, by simp⟩

theorem info41 : (Yba.prog.info? 41).map (fun i => decide (i.size = 0)) = some false := by kernel_rfl
theorem info78 : (Yba.prog.info? 78).map (fun i => decide (i.size = 0)) = some false := by kernel_rfl

/-! The Group in memory: block B, 59 cells: the state at 0, self at 57, annex at 58. -/
structure GS (B : Nat) (st : Int) (slf ann : Option Addr) (w : World) : Prop where
  sh : w.shape? B = some (41, 59)
  c0 : w.cell? ⟨B, 0, none⟩ = some (.int .u64 st)
  c57 : w.cell? ⟨B, 57, none⟩ = some (.pointer slf)
  c58 : w.cell? ⟨B, 58, none⟩ = some (.pointer ann)
  f : ∀ i, w.frozen? ⟨B, i, none⟩ = false

theorem shape_setCell (w : World) (a : Addr) (v : Value) (b : Nat) : (w.setCell a v).shape? b = w.shape? b := by
  unfold World.shape? World.setCell
  simp only [Array.getElem?_modify]
  by_cases hb : a.block = b
  · rw [if_pos hb]
    cases w.heap[b]? with
    | none => rfl
    | some o =>
      cases o with
      | cells c e fr => simp only [Option.map_some]; split <;> simp
      | _ => rfl
  · rw [if_neg hb]

theorem GS.set0 {B : Nat} {st : Int} {s an : Option Addr} {w : World} (h : GS B st s an w) (y : Int) : GS B y s an (w.setCell ⟨B, 0, none⟩ (.int .u64 y)) :=
  ⟨by rw [shape_setCell]; exact h.sh, World.cell?_setCell_same _ _ _ h.c0, by rw [World.cell?_setCell_other _ _ _ _ (by simp)]; exact h.c57, by rw [World.cell?_setCell_other _ _ _ _ (by simp)]; exact h.c58, fun i => by rw [World.frozen?_setCell]; exact h.f i⟩
theorem GS.set57 {B : Nat} {st : Int} {s an : Option Addr} {w : World} (h : GS B st s an w) (y : Option Addr) : GS B st y an (w.setCell ⟨B, 57, none⟩ (.pointer y)) :=
  ⟨by rw [shape_setCell]; exact h.sh, by rw [World.cell?_setCell_other _ _ _ _ (by simp)]; exact h.c0, World.cell?_setCell_same _ _ _ h.c57, by rw [World.cell?_setCell_other _ _ _ _ (by simp)]; exact h.c58, fun i => by rw [World.frozen?_setCell]; exact h.f i⟩
theorem GS.set58 {B : Nat} {st : Int} {s an : Option Addr} {w : World} (h : GS B st s an w) (y : Option Addr) : GS B st s y (w.setCell ⟨B, 58, none⟩ (.pointer y)) :=
  ⟨by rw [shape_setCell]; exact h.sh, by rw [World.cell?_setCell_other _ _ _ _ (by simp)]; exact h.c0, by rw [World.cell?_setCell_other _ _ _ _ (by simp)]; exact h.c57, World.cell?_setCell_same _ _ _ h.c58, fun i => by rw [World.frozen?_setCell]; exact h.f i⟩

/-! The methods of the atomic types. -/
theorem state_store (B : Nat) (st y : Int) (s an : Option Addr) (w : World) (h : GS B st s an w) :
    Calls Yba.prog 21 #[.pointer (some ⟨B, 0, none⟩), .int .u64 y] w fun e w' => e = .returned (.tuple #[]) ∧ w' = w.setCell ⟨B, 0, none⟩ (.int .u64 y) := by
  have h1 := store64 (y := y) h.c0 (h.f 0)
  have hc := h.c0
  go_enter Yba.func21, Yba.ntmps21
  go_wp2
  go_end0
  exact ⟨rfl, rfl⟩
theorem state_load (B : Nat) (st : Int) (s an : Option Addr) (w : World) (h : GS B st s an w) :
    Calls Yba.prog 16 #[.pointer (some ⟨B, 0, none⟩)] w fun e w' => e = .returned (.int .u64 st) ∧ w' = w := by
  have h1 := load64 h.c0
  have hc := h.c0
  go_enter Yba.func16, Yba.ntmps16
  go_wp2
  go_ret
  exact ⟨rfl, rfl⟩

theorem self_store (B : Nat) (st : Int) (s an : Option Addr) (w : World) (h : GS B st s an w) :
    Calls Yba.prog 23 #[.pointer (some ⟨B, 57, none⟩), .pointer (some ⟨B, 0, none⟩)] w fun e w' => e = .returned (.tuple #[]) ∧ w' = w.setCell ⟨B, 57, none⟩ (.pointer (some ⟨B, 0, none⟩)) := by
  have h1 := storeP (y := some ⟨B, 0, none⟩) h.c57 (h.f 57)
  have h2 := conv_to B h.sh
  have hc := h.c57
  go_enter Yba.func23, Yba.ntmps23
  go_wp2
  go_end0
  exact ⟨rfl, rfl⟩
theorem self_load (B : Nat) (st : Int) (an : Option Addr) (w : World) (h : GS B st (some ⟨B, 0, none⟩) an w) :
    Calls Yba.prog 25 #[.pointer (some ⟨B, 57, none⟩)] w fun e w' => e = .returned (.pointer (some ⟨B, 0, none⟩)) ∧ w' = w := by
  have h1 := loadP h.c57
  have h2 := conv_back B h.sh
  have hc := h.c57
  go_enter Yba.func25, Yba.ntmps25
  go_wp2
  go_ret
  exact ⟨rfl, rfl⟩
theorem self_cas_hit (B : Nat) (st : Int) (an : Option Addr) (w : World) (h : GS B st none an w) :
    Calls Yba.prog 42 #[.pointer (some ⟨B, 57, none⟩), .pointer none, .pointer (some ⟨B, 0, none⟩)] w fun e w' => e = .returned (.bool true) ∧ w' = w.setCell ⟨B, 57, none⟩ (.pointer (some ⟨B, 0, none⟩)) := by
  have h1 := casP_hit (y := some ⟨B, 0, none⟩) h.sh h.c57 (h.f 57)
  have h2 := conv_to B h.sh
  have h3 := conv_to_nil
  have hc := h.c57
  go_enter Yba.func42, Yba.ntmps42
  go_wp2
  go_ret
  exact ⟨rfl, rfl⟩
theorem self_cas_miss (B : Nat) (st : Int) (b : Addr) (an : Option Addr) (w : World) (h : GS B st (some b) an w) :
    Calls Yba.prog 42 #[.pointer (some ⟨B, 57, none⟩), .pointer none, .pointer (some ⟨B, 0, none⟩)] w fun e w' => e = .returned (.bool false) ∧ w' = w := by
  have h1 := casP_miss (y := some ⟨B, 0, none⟩) h.sh h.c57 (h.f 57)
  have h2 := conv_to B h.sh
  have h3 := conv_to_nil
  have hc := h.c57
  go_enter Yba.func42, Yba.ntmps42
  go_wp2
  go_ret
  exact ⟨rfl, rfl⟩
end Go.Proofs.Ybulkejkw.lawS6782CWhole
