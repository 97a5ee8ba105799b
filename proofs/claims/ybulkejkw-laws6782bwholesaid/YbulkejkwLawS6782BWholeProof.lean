/-
  THE PROOF OF 'Rows.LawS6782BWholeSaid': the frame after the skeleton tool's for a law over slices; the walks: YbulkejkwBMem, YbulkejkwBInv, YbulkejkwBRow, YbulkejkwBAll, YbulkejkwBFin, YbulkejkwBMain.
-/
import Derived.Test.YbulkejkwRows
import Derived.Test.YbulkejkwBMain
import Derived.WalkKit
import Derived.ProofKit
import Derived.OpenShut
import Derived.ShutString
import Derived.ChangeOld
import Derived.Below
import Derived.Deep.Slices
import Derived.Deep.Strs
namespace Go.Proofs.Ybulkejkw.lawS6782BWhole
open Go.ChangeShapes Go.WideShapes Go.ChangeAt Go.RowKit
open Go.ChangeMaps (open_string shut_string)
set_option linter.unusedVariables false

theorem own : ownKnob Yba.prog.godebug = none := by kernel_rfl
theorem laidOut : laidOutB Yba.prog = true := by kernel_rfl
theorem cells68 : Yba.prog.cellsOf 68 = 3 := by kernel_rfl
theorem cells4 : Yba.prog.cellsOf 4 = 1 := by kernel_rfl
theorem cells66 : Yba.prog.cellsOf 66 = 1 := by kernel_rfl
theorem cells9 : Yba.prog.cellsOf 9 = 1 := by kernel_rfl

set_option maxRecDepth 100000 in
/-- WHAT THE WALK IS TOLD OF THE STEPS THAT CAME IN. -/
theorem opened {H : Type} {enc : TypeId × Value → H} {W : World} {fuel : Nat} {a0 : Option Addr} {len cap : Nat} {x : DataW H × List MemPlace}
    (h : DataW.trod enc Yba.prog W 0 (fun _ => true) true fuel 60 [.slice a0 len cap] = some x) :
    len ≤ maxLen ∧ (0 < len → ∃ b o, a0 = some ⟨b, o, none⟩ ∧ b < W.heap.size ∧ StepsAt b o len W) := by
  rcases Deep.open_slice Yba.underlying60 h with ⟨hcs, _⟩ | ⟨a, l, c, m, n, D, Pl, hcs, _, hl, hm, hmm, _, hx⟩
  · simp at hcs
    obtain ⟨rfl, rfl, rfl⟩ := hcs
    exact ⟨Nat.zero_le _, fun h => absurd h (Nat.lt_irrefl 0)⟩
  · simp at hcs
    obtain ⟨rfl, rfl, rfl⟩ := hcs
    simp only [if_true] at hmm
    subst hmm
    have each : ∀ i, i < m → ∃ (rm : Bool) (pk : Nat) (nm : ByteArray), pk ≤ 65535 ∧ W.cell? (a.add (i * 3)) = some (.bool rm) ∧ W.cell? (a.add (i * 3 + 1)) = some (.int .u16 pk) ∧ W.cell? (a.add (i * 3 + 2)) = some (.string nm) := by
      intro i hi
      obtain ⟨cs', h1, h2⟩ := hx i hi
      rw [cells68] at h1
      obtain ⟨_, hlen, hcell⟩ := World.cells?_some h1
      obtain ⟨y0, y1, y2, k, _, _, g0, g1, g2⟩ := Deep.trod_struct3 Yba.underlying68 h2
      match cs', hlen with
      | [v0, v1, v2], _ =>
        simp [cells4, cells66, cells9] at g0 g1 g2
        obtain ⟨rm, e0, _⟩ := DataW.trod_bool Yba.underlying4 g0
        obtain ⟨pk, e1, _, wf⟩ := DataW.trod_int Yba.underlying66 g1
        obtain ⟨nm, e2, _, _⟩ := DataW.trod_string Yba.underlying9 g2
        simp at e0 e1 e2
        subst e0 e1 e2
        have c0 := hcell 0 (by omega)
        have c1 := hcell 1 (by omega)
        have c2 := hcell 2 (by omega)
        rw [Deep.add_add] at c0 c1 c2
        have hb := bounds_u16 wf
        exact ⟨rm, pk.toNat, nm, by omega, by simpa using c0, by rw [Int.toNat_of_nonneg hb.1]; simpa using c1, by simpa using c2⟩
    refine ⟨by omega, fun hpos => ?_⟩
    obtain ⟨b, o, spot⟩ := a
    obtain ⟨_, _, _, _, hc0, _, _⟩ := each 0 (by omega)
    have hspot : spot = none := by simpa [Addr.add] using World.cell?_spot hc0
    subst hspot
    refine ⟨b, o, rfl, ?_, fun i hi => ?_⟩
    · have := World.block_lt_of_cell? _ _ hc0
      simpa [Addr.add] using this
    · obtain ⟨rm, pk, nm, hpk, c0, c1, c2⟩ := each i (by omega)
      rw [add_plain] at c0 c1 c2
      exact ⟨rm, pk, nm, hpk, c0, by rw [Nat.add_assoc]; exact c1, by rw [Nat.add_assoc]; exact c2⟩

theorem walk (a0 : Option Addr) (len cap : Nat) (extra : Int) (name : ByteArray) (left : Bool) (w : World) (hm : len ≤ maxLen) (ha : 0 < len → ∃ b o, a0 = some ⟨b, o, none⟩ ∧ b < w.heap.size ∧ StepsAt b o len w) :
    Calls Yba.prog 4 #[.slice a0 len cap, .int .i64 extra, .string name, .bool left] w fun e w' => e = .returned (.bool true) ∧ Below w.heap.size w w' := by
  unfold maxLen at hm
  by_cases hlen : len ≤ 65536
  · exact walk_some a0 len cap extra name left w hlen ha
  · exact walk_long a0 len cap extra name left w (by omega) (by omega)

set_option maxRecDepth 100000 in
theorem lifted (os : Os) (started : os.Started) (H : Type) (enc : TypeId × Value → H) :
    ReturnsInHanded {} Yba.checked os 4 .any (Rows.lawS6782BWholeSpec.pre6 enc Yba.prog Yba.f4 Rows.lawS6782BWholeRow.domain false) (Rows.lawS6782BWholeSpec.post enc Yba.prog Yba.f4 false true false false) := by
  refine returnsInHanded_of_change (C := Yba.checked) own started (by kernel_rfl) Yba.func4
    (ChangeSpec.witness6 (enc := enc) (C := Yba.checked) false ⟨#[], #[.slice none 0 0, .int .i64 0, .string ByteArray.empty, .bool false], []⟩ 8 (by kernel_rfl) (by kernel_rfl) (by kernel_rfl) (by kernel_rfl)) ?_
  intro W base args ds gs before hval0 hW hcnd _
  have hval : ∀ (j : Nat) t v, Yba.f4.params[j]? = some t → args[j]? = some v → Value.okWide Yba.prog W .any base t v := hval0
  have hW' := hW
  obtain ⟨p, q, hA0, hV, rfl, hfz, hnd⟩ := hW
  have hA : DataW.TrodAll enc Yba.prog W 0 (fun _ => true) true Yba.f4.params.toList args.toList ds p := hA0
  rw [Yba.params4] at hA hval
  obtain ⟨v0, vs0, d0, ds0, p0, q0, hargs, rfl, rfl, h0, r0⟩ := trodAll_cons hA
  obtain ⟨v1, vs1, d1, ds1, p1, q1, rfl, rfl, rfl, h1, r1⟩ := trodAll_cons r0
  obtain ⟨v2, vs2, d2, ds2, p2, q2, rfl, rfl, rfl, h2, r2⟩ := trodAll_cons r1
  obtain ⟨v3, vs3, d3, ds3, p3, q3, rfl, rfl, rfl, h3, r3⟩ := trodAll_cons r2
  obtain ⟨rfl, rfl, rfl⟩ := trodAll_nil r3
  obtain rfl : args = #[v0, v1, v2, v3] := by cases args; simp_all
  obtain ⟨rfl, rfl⟩ := trodVars_none hV
  obtain ⟨a0, len0, cap0, rfl⟩ := okWide_slice Yba.underlying60 (hval 0 60 v0 rfl rfl)
  have k0 := h0
  have lt0 : ∀ x ∈ p0, x.block < W.heap.size := by obtain ⟨m, hm⟩ := k0; exact DataW.trod_lt m _ _ _ hm
  obtain ⟨hm0, ha0⟩ : len0 ≤ maxLen ∧ (0 < len0 → ∃ b o, a0 = some ⟨b, o, none⟩ ∧ b < W.heap.size ∧ StepsAt b o len0 W) := by
    obtain ⟨fuel, hf⟩ := h0
    exact opened (by simpa [Value.cells] using hf)
  obtain ⟨a1, rfl, rfl, rfl, w1⟩ := open_int Yba.underlying3 (hval 1 3 v1 rfl rfl) h1
  obtain ⟨s2, rfl, rfl, rfl, w2⟩ := open_string Yba.underlying9 (hval 2 9 v2 rfl rfl) h2
  obtain ⟨a3, rfl, rfl, rfl⟩ := open_bool Yba.underlying4 (hval 3 4 v3 rfl rfl) h3
  clear hA0 hval0
  refine (walk a0 len0 cap0 a1 s2 a3 W hm0 ha0).mono fun e W' ⟨he, bel⟩ => ?_
  subst he
  exact ⟨_, rfl, _, _, _, [], _, [], hW', trodAll_mk1 (shut_bool Yba.underlying4 _), (trodAll_cons_mk (Below.trod laidOut (by kernel_rfl) (of_decide_eq_true (by kernel_rfl)) k0 bel lt0) (trodAll_cons_mk (shut_int Yba.underlying3 w1) (trodAll_cons_mk (shut_string Yba.underlying9 w2) (trodAll_cons_mk (shut_bool Yba.underlying4 _) trodAll_mk0)))), rfl, bel.frame _, fun h => by cases h⟩

theorem over : Rows.lawS6782BWholeRow.holds Yba.pinned (OpenSpec.ofChange Rows.lawS6782BWholeSpec) :=
  OpenClaim.holds_of_wide 4 Yba.f4 rfl rfl rfl rfl rfl rfl rfl ⟨rfl, rfl, rfl, rfl, rfl⟩ rfl rfl rfl rfl rfl (by kernel_rfl) Yba.func4 (by kernel_rfl)
    (of_decide_eq_true (by kernel_rfl)) (by unfold Func.isWrapper; first | (rw [if_pos (by decide +kernel)]; kernel_rfl) | (rw [if_neg (by decide +kernel)]; exact ⟨rfl, rfl⟩))
    (fun os started H enc _ => lifted os started H enc)

/-- THE STATEMENT -/
theorem proved : Rows.LawS6782BWholeSaid := over
end Go.Proofs.Ybulkejkw.lawS6782BWhole
