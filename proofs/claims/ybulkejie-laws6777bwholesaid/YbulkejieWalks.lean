import Derived.Test.YbulkejieRows
import Derived.WalkKit
import Derived.WalkSpells
import Derived.WalkLawsBesides
import Derived.Deep.OwnRows
import Derived.Deep.QuietTactic
import Derived.BigQuiet
import Derived.Laws.CopyOwn
namespace Go.Proofs.Ybulkejie.lawS6777BWhole
open Go.RowKit
set_option linter.unusedVariables false

theorem ret_bool {a b : Bool} (h : a = b) : Ending.returned (.bool a) = .returned (.bool b) := by rw [h]
/-- Which octets a field value may hold. -/
def okc (c : Int) : Bool := decide (c = 9 ∨ (c ≠ 127 ∧ 32 ≤ c))

theorem okc_yes {c : Int} (h : c = 9 ∨ (c ≠ 127 ∧ 32 ≤ c)) : okc c = true := by simpa [okc] using h
theorem okc_no {c : Int} (h : ¬ (c = 9 ∨ (c ≠ 127 ∧ 32 ≤ c))) : okc c = false := by simpa [okc] using h

set_option maxHeartbeats 400000 in
theorem ok_calls (c : Int) (w : World) : Calls Yba.prog 4 #[.int .u8 c] w fun e w' => e = .returned (.bool (okc c)) ∧ w' = w := by
  by_cases h9 : c = 9
  · have h9' : (c == 9) = true := by simpa using h9
    rw [okc_yes (.inl h9)]
    clear h9
    go_enter Yba.func4, Yba.ntmps4
    go_wp2
    go_ret
    exact ⟨rfl, rfl⟩
  · have h9' : (c == 9) = false := by simpa using h9
    by_cases h7 : c = 127
    · have h7' : (c == 127) = true := by simpa using h7
      rw [okc_no (by omega)]
      clear h7 h9
      go_enter Yba.func4, Yba.ntmps4
      go_wp2
      go_ret
      exact ⟨rfl, rfl⟩
    · have h7' : (c == 127) = false := by simpa using h7
      by_cases hc : 32 ≤ c
      · rw [okc_yes (by omega)]
        clear h7 h9
        go_enter Yba.func4, Yba.ntmps4
        go_wp2
        go_ret
        exact ⟨rfl, rfl⟩
      · rw [okc_no (by omega)]
        clear h7 h9
        go_enter Yba.func4, Yba.ntmps4
        go_wp2
        go_ret
        exact ⟨rfl, rfl⟩

/-- All of a list of octets are allowed. -/
def allok (zs : List Int) : Bool := zs.all okc

theorem allok_take_succ (zs : List Int) (k : Nat) (h : k < zs.length) : allok (zs.take (k + 1)) = (allok (zs.take k) && okc (zs[k]?.getD 0)) := by
  unfold allok
  rw [List.take_succ_eq_append_getElem h, List.all_append]
  simp [h]
theorem allok_of_no (zs : List Int) (n k : Nat) (hk : k < n) (hz : k < zs.length) (h : okc (zs[k]?.getD 0) = false) : allok (zs.take n) = false := by
  unfold allok
  rw [List.all_eq_false]
  refine ⟨zs[k], List.mem_take_iff_getElem.2 ⟨k, by omega, rfl⟩, ?_⟩
  simp [hz] at h
  simp [h]

set_option maxHeartbeats 400000 in
/-- 'isFieldValue' of nothing. -/
theorem field_none (a : Option Addr) (cap : Nat) (w : World) :
    Calls Yba.prog 5 #[.slice a 0 cap] w fun e w' => e = .returned (.bool true) ∧ w' = w := by
  go_enter Yba.func5, Yba.ntmps5
  go_wp2
  go_loop [4, 7] (fun c i => i = .int .i64 0) (fun _ i => 0)
  case atStart => rfl
  case round =>
    subst hrel
    go_wp2
    go_ret
    exact ⟨rfl, rfl⟩

set_option maxHeartbeats 400000 in
/-- 'isFieldValue' over octets that lie in memory. -/
theorem field_calls (b off len cap : Nat) (zs : List Int) (w : World) (hl : len ≤ zs.length) (hm : len ≤ 1048576)
    (hcell : ∀ i, i < zs.length → w.cell? ⟨b, off + i, none⟩ = some (.int .u8 (zs.getD i 0))) :
    Calls Yba.prog 5 #[.slice (some ⟨b, off, none⟩) len cap] w fun e w' => e = .returned (.bool (allok (zs.take len))) ∧ w' = w := by
  go_enter Yba.func5, Yba.ntmps5
  go_wp2
  go_loop [4, 7] (fun c i => ∃ k : Nat, k ≤ len ∧ i = .int .i64 k ∧ allok (zs.take k) = true) (fun _ i => len - (intOf i).toNat)
  case atStart => exact ⟨0, Nat.zero_le _, rfl, rfl⟩
  case round =>
    obtain ⟨k, hk, rfl, hall⟩ := hrel
    have Hall : Hid (allok (zs.take k) = true) := hall
    clear hall
    by_cases hlt : k < len
    · have hc := hcell k (by omega)
      have hsucc := allok_take_succ zs k (by omega)
      have hno := allok_of_no zs len k hlt (by omega)
      rw [List.getD_eq_getElem?_getD] at hc
      generalize zs[k]?.getD 0 = c at hc hsucc hno
      have Hsucc : Hid (allok (zs.take (k + 1)) = (allok (zs.take k) && okc c)) := hsucc
      have Hno : Hid (okc c = false → allok (zs.take len) = false) := hno
      clear hsucc hno hcell
      by_cases h9 : c = 9
      · subst h9
        go_wp2
        go_round
        case rel => exact ⟨k + 1, by omega, by go_num, by rw [Hsucc.out, Hall.out]; decide⟩
        case measure => simp [intOf]; omega
      · have h9' : (c == 9) = false := by simpa using h9
        have h9'' : (c != 9) = true := by simpa using h9
        by_cases h7 : c = 127
        · subst h7
          go_wp2
          go_ret
          exact ⟨ret_bool (Hno.out (by decide)).symm, rfl⟩
        · have h7' : (c == 127) = false := by simpa using h7
          by_cases h32 : c < 32
          · go_wp2
            go_ret
            exact ⟨ret_bool (Hno.out (okc_no (by omega))).symm, rfl⟩
          · go_wp2
            go_round
            case rel => exact ⟨k + 1, by omega, by go_num, by rw [Hsucc.out, Hall.out, okc_yes (by omega)]; rfl⟩
            case measure => simp [intOf]; omega
    · obtain rfl : k = len := by omega
      go_wp2
      go_ret
      exact ⟨ret_bool Hall.out.symm, rfl⟩
end Go.Proofs.Ybulkejie.lawS6777BWhole
