import Derived.Test.YbulkejjuRows
import Derived.Test.YbulkejjuPlain
import Derived.WalkKit
import Derived.WalkSpells
import Derived.WalkLawsBesides
import Derived.Lib.VarintBits
import Derived.Laws.Closers25b
namespace Go.Proofs.Ybulkejju.lawS6780BWhole
open Go.RowKit Go.Proofs.Ybulkejju.Plain
set_option linter.unusedVariables false

theorem ret_half {r : Nat × Nat × Bool} {a b : Nat} {c : Bool} (h : r = (a, b, c)) {x y : Int} (hx : x = a) (hy : y = b) :
    Ending.returned (.tuple #[.int .u64 x, .int .i64 y, .bool c]) = .returned (.tuple #[.int .u64 r.1, .int .i64 r.2.1, .bool r.2.2]) := by
  subst h; rw [hx, hy]

set_option maxHeartbeats 400000 in
/-- The model's half where the half is no escape. -/
theorem model_small (v : Value) (l : List UInt8) (p h : Nat) (w : World) (hh : h < 15) :
    Calls Yba.prog 5 #[v, .int .i64 p, .int .u8 h] w fun e w' => e = .returned (.tuple #[.int .u64 (halfR l p h).1, .int .i64 (halfR l p h).2.1, .bool (halfR l p h).2.2]) ∧ w' = w := by
  have Hfin : Hid (halfR l p h = (h, p, true)) := halfR_small l p h hh
  have h1 : (h : Int) < 15 := by omega
  have h0 : (0 : Int) ≤ h := by omega
  go_enter Yba.func5, Yba.ntmps5
  go_wp2
  go_ret3
  exact ⟨ret_half Hfin.out rfl rfl, rfl⟩

set_option maxHeartbeats 8000000 in
set_option maxRecDepth 100000 in
/-- The model's half at an escape. -/
theorem model_escape (g o n c : Nat) (l : List UInt8) (p h : Nat) (w : World) (hh : ¬ h < 15) (hl : l.length = n) (hn : n ≤ 1048576) (hp : p ≤ n)
    (hcell : ∀ j, j < n → w.cell? ⟨g, o + j, none⟩ = some (.int .u8 (l.getD j 0).toNat)) :
    Calls Yba.prog 5 #[.slice (some ⟨g, o, none⟩) n c, .int .i64 p, .int .u8 h] w fun e w' => e = .returned (.tuple #[.int .u64 (halfR l p h).1, .int .i64 (halfR l p h).2.1, .bool (halfR l p h).2.2]) ∧ w' = w := by
  have h1 : ¬ (h : Int) < 15 := by omega
  go_enter Yba.func5, Yba.ntmps5
  go_wp2
  go_loop [9, 10, 11] (fun vv vi _ => ∃ k acc : Nat, vi = .int .i64 k ∧ vv = .int .u64 acc ∧ k ≤ 10 ∧ p + k ≤ n ∧ acc < 2 ^ (7 * k) ∧ Lib.uvarintDec (l.drop p) = Lib.uvarintFrom k acc (l.drop (p + k)))
    (fun _ vi _ => 10 - (intOf vi).toNat)
  case atStart => exact ⟨0, 0, rfl, rfl, by omega, by omega, by decide, rfl⟩
  case round =>
    obtain ⟨k, acc, rfl, rfl, hk10, hkn, hacc, hdec⟩ := hrel
    have hks : k = 0 ∨ k = 1 ∨ k = 2 ∨ k = 3 ∨ k = 4 ∨ k = 5 ∨ k = 6 ∨ k = 7 ∨ k = 8 ∨ k = 9 ∨ k = 10 := by omega
    rcases hks with rfl | rfl | rfl | rfl | rfl | rfl | rfl | rfl | rfl | rfl | rfl
    · have hacc' : acc < 1 := by simpa using hacc
      by_cases hlt : p + 0 < n
      · have hc : w.cell? ⟨g, o + p, none⟩ = some (.int .u8 (l.getD (p + 0) 0).toNat) := hcell (p + 0) (by omega)
        have Hdec : Hid (Lib.uvarintDec (l.drop p) = Lib.uvarintFrom 0 acc (l.drop (p + 0))) := hdec
        clear hdec
        have hb256 : (l.getD (p + 0) 0).toNat < 256 := (l.getD (p + 0) 0).toNat_lt
        obtain ⟨b, hbd⟩ : ∃ b, b = (l.getD (p + 0) 0).toNat := ⟨_, rfl⟩
        have HB : Hid (b = (l.getD (p + 0) 0).toNat) := hbd
        rw [← hbd] at hc hb256
        clear hbd hcell
        have hlt' : p + 0 < l.length := by omega
        have hi1 : (p : Int) < (n : Int) := by omega
        by_cases hb : b < 128
        · have hbi : (b : Int) < 128 := by omega
          obtain ⟨V, hVd⟩ : ∃ V, acc + b * 1 = V := ⟨_, rfl⟩
          have hor : bits .or .u64 (acc : Int) ((b : Int) * 1) = (V : Int) := by
            rw [u64_orv0 _ _ (by omega) (by omega) (by omega) (by omega) (by omega)]
            omega
          rw [Int.mul_one] at hor
          have HV : Hid (acc + (l.getD (p + 0) 0).toNat * 2 ^ (7 * 0) = V) := by rw [← HB.out, show (2 : Nat) ^ (7 * 0) = 1 by decide]; exact hVd
          have h9 : ¬ (0 = 9 ∧ 1 < (l.getD (p + 0) 0).toNat) := by rw [← HB.out]; omega
          have hbn : (l.getD (p + 0) 0).toNat < 128 := by rw [← HB.out]; exact hb
          have hzn : ¬ (0 < 0 ∧ (l.getD (p + 0) 0).toNat = 0) := by rw [← HB.out]; omega
          have H9 : Hid _ := h9
          have HBN : Hid _ := hbn
          have HZN : Hid _ := hzn
          clear h9 hbn hzn
          have hbig : ¬ 18446744073709551600 < V := by omega
          have Hfin : Hid (halfR l p h = (15 + V, p + 0 + 1, true)) := fin_ok (k := 0) hh (by decide) hlt' Hdec.out HBN.out H9.out HZN.out HV.out hbig
          have hbi2 : (V : Int) ≤ 18446744073709551600 := by omega
          have hv0 : (0 : Int) ≤ (V : Int) := by omega
          clear hVd hbig
          go_wp2
          go_ret3
          exact ⟨ret_half Hfin.out (by omega) (by omega), rfl⟩
        · obtain ⟨A2, hA2⟩ : ∃ A2, acc + b % 128 * 1 = A2 := ⟨_, rfl⟩
          have hv : bits .or .u64 (acc : Int) (IntKind.u64.wrap (IntKind.u64.wrap (bits .and .u8 (b : Int) 127))) = (A2 : Int) := by
            simp (disch := omega) only [u8_and127, u64_wrap_id, u64_orv0]
            omega
          have Hnx : Hid (Lib.uvarintDec (l.drop p) = Lib.uvarintFrom 1 A2 (l.drop (p + 1))) := by
            have hx := dec_next (k := 0) (by decide) hlt' Hdec.out (by rw [← HB.out]; exact hb)
            rw [← HB.out, show (2 : Nat) ^ (7 * 0) = 1 by decide, hA2] at hx
            exact hx
          have hlt2 : A2 < 128 := by omega
          have hbi : (128 : Int) ≤ (b : Int) := by omega
          clear hA2
          go_wp2
          go_round
          case rel => exact ⟨1, A2, rfl, rfl, by omega, by omega, by rw [show (2 : Nat) ^ (7 * 1) = 128 by decide]; exact hlt2, Hnx.out⟩
          case measure => simp [intOf]
      · have Hfin : Hid (halfR l p h = (0, p, false)) := fin_end hh hdec (by omega)
        clear hdec
        have hge : (n : Int) ≤ (p : Int) := by omega
        go_wp2
        go_ret3
        exact ⟨ret_half Hfin.out rfl rfl, rfl⟩
    · have hacc' : acc < 128 := by simpa using hacc
      by_cases hlt : p + 1 < n
      · have hc := hcell (p + 1) (by omega)
        have Hdec : Hid (Lib.uvarintDec (l.drop p) = Lib.uvarintFrom 1 acc (l.drop (p + 1))) := hdec
        clear hdec
        have hb256 : (l.getD (p + 1) 0).toNat < 256 := (l.getD (p + 1) 0).toNat_lt
        obtain ⟨b, hbd⟩ : ∃ b, b = (l.getD (p + 1) 0).toNat := ⟨_, rfl⟩
        have HB : Hid (b = (l.getD (p + 1) 0).toNat) := hbd
        rw [← hbd] at hc hb256
        clear hbd hcell
        have hlt' : p + 1 < l.length := by omega
        have hi1 : (p : Int) + 1 < (n : Int) := by omega
        by_cases hb : b < 128
        · have hbi : (b : Int) < 128 := by omega
          by_cases hz : b = 0
          · have Hfin : Hid (halfR l p h = (0, p, false)) := fin_zero (k := 1) hh (by decide) (by decide) hlt' Hdec.out (by rw [← HB.out]; exact hz)
            have hzi : ((b : Int) == 0) = true := by simpa using hz
            clear hz
            go_wp2
            go_ret3
            exact ⟨ret_half Hfin.out rfl rfl, rfl⟩
          · have hzi : ((b : Int) == 0) = false := by simpa using hz
            obtain ⟨V, hVd⟩ : ∃ V, acc + b * 128 = V := ⟨_, rfl⟩
            have hor : bits .or .u64 (acc : Int) ((b : Int) * 128) = (V : Int) := by
              rw [u64_orv7 _ _ (by omega) (by omega) (by omega) (by omega) (by omega)]
              omega
            have HV : Hid (acc + (l.getD (p + 1) 0).toNat * 2 ^ (7 * 1) = V) := by rw [← HB.out, show (2 : Nat) ^ (7 * 1) = 128 by decide]; exact hVd
            have h9 : ¬ (1 = 9 ∧ 1 < (l.getD (p + 1) 0).toNat) := by rw [← HB.out]; omega
            have hbn : (l.getD (p + 1) 0).toNat < 128 := by rw [← HB.out]; exact hb
            have hzn : ¬ (0 < 1 ∧ (l.getD (p + 1) 0).toNat = 0) := by rw [← HB.out]; omega
            have H9 : Hid _ := h9
            have HBN : Hid _ := hbn
            have HZN : Hid _ := hzn
            clear h9 hbn hzn
            have hbig : ¬ 18446744073709551600 < V := by omega
            have Hfin : Hid (halfR l p h = (15 + V, p + 1 + 1, true)) := fin_ok (k := 1) hh (by decide) hlt' Hdec.out HBN.out H9.out HZN.out HV.out hbig
            have hbi2 : (V : Int) ≤ 18446744073709551600 := by omega
            have hv0 : (0 : Int) ≤ (V : Int) := by omega
            clear hVd hbig
            go_wp2
            go_ret3
            exact ⟨ret_half Hfin.out (by omega) (by omega), rfl⟩
        · obtain ⟨A2, hA2⟩ : ∃ A2, acc + b % 128 * 128 = A2 := ⟨_, rfl⟩
          have hv : bits .or .u64 (acc : Int) (IntKind.u64.wrap (IntKind.u64.wrap (bits .and .u8 (b : Int) 127) * 128)) = (A2 : Int) := by
            simp (disch := omega) only [u8_and127, u64_wrap_id, u64_orv7]
            omega
          have Hnx : Hid (Lib.uvarintDec (l.drop p) = Lib.uvarintFrom 2 A2 (l.drop (p + 2))) := by
            have hx := dec_next (k := 1) (by decide) hlt' Hdec.out (by rw [← HB.out]; exact hb)
            rw [← HB.out, show (2 : Nat) ^ (7 * 1) = 128 by decide, hA2] at hx
            exact hx
          have hlt2 : A2 < 16384 := by omega
          have hbi : (128 : Int) ≤ (b : Int) := by omega
          clear hA2
          go_wp2
          go_round
          case rel => exact ⟨2, A2, rfl, rfl, by omega, by omega, by rw [show (2 : Nat) ^ (7 * 2) = 16384 by decide]; exact hlt2, Hnx.out⟩
          case measure => simp [intOf]
      · have Hfin : Hid (halfR l p h = (0, p, false)) := fin_end hh hdec (by omega)
        clear hdec
        have hge : (n : Int) ≤ (p : Int) + 1 := by omega
        go_wp2
        go_ret3
        exact ⟨ret_half Hfin.out rfl rfl, rfl⟩
    · have hacc' : acc < 16384 := by simpa using hacc
      by_cases hlt : p + 2 < n
      · have hc := hcell (p + 2) (by omega)
        have Hdec : Hid (Lib.uvarintDec (l.drop p) = Lib.uvarintFrom 2 acc (l.drop (p + 2))) := hdec
        clear hdec
        have hb256 : (l.getD (p + 2) 0).toNat < 256 := (l.getD (p + 2) 0).toNat_lt
        obtain ⟨b, hbd⟩ : ∃ b, b = (l.getD (p + 2) 0).toNat := ⟨_, rfl⟩
        have HB : Hid (b = (l.getD (p + 2) 0).toNat) := hbd
        rw [← hbd] at hc hb256
        clear hbd hcell
        have hlt' : p + 2 < l.length := by omega
        have hi1 : (p : Int) + 2 < (n : Int) := by omega
        by_cases hb : b < 128
        · have hbi : (b : Int) < 128 := by omega
          by_cases hz : b = 0
          · have Hfin : Hid (halfR l p h = (0, p, false)) := fin_zero (k := 2) hh (by decide) (by decide) hlt' Hdec.out (by rw [← HB.out]; exact hz)
            have hzi : ((b : Int) == 0) = true := by simpa using hz
            clear hz
            go_wp2
            go_ret3
            exact ⟨ret_half Hfin.out rfl rfl, rfl⟩
          · have hzi : ((b : Int) == 0) = false := by simpa using hz
            obtain ⟨V, hVd⟩ : ∃ V, acc + b * 16384 = V := ⟨_, rfl⟩
            have hor : bits .or .u64 (acc : Int) ((b : Int) * 16384) = (V : Int) := by
              rw [u64_orv14 _ _ (by omega) (by omega) (by omega) (by omega) (by omega)]
              omega
            have HV : Hid (acc + (l.getD (p + 2) 0).toNat * 2 ^ (7 * 2) = V) := by rw [← HB.out, show (2 : Nat) ^ (7 * 2) = 16384 by decide]; exact hVd
            have h9 : ¬ (2 = 9 ∧ 1 < (l.getD (p + 2) 0).toNat) := by rw [← HB.out]; omega
            have hbn : (l.getD (p + 2) 0).toNat < 128 := by rw [← HB.out]; exact hb
            have hzn : ¬ (0 < 2 ∧ (l.getD (p + 2) 0).toNat = 0) := by rw [← HB.out]; omega
            have H9 : Hid _ := h9
            have HBN : Hid _ := hbn
            have HZN : Hid _ := hzn
            clear h9 hbn hzn
            have hbig : ¬ 18446744073709551600 < V := by omega
            have Hfin : Hid (halfR l p h = (15 + V, p + 2 + 1, true)) := fin_ok (k := 2) hh (by decide) hlt' Hdec.out HBN.out H9.out HZN.out HV.out hbig
            have hbi2 : (V : Int) ≤ 18446744073709551600 := by omega
            have hv0 : (0 : Int) ≤ (V : Int) := by omega
            clear hVd hbig
            go_wp2
            go_ret3
            exact ⟨ret_half Hfin.out (by omega) (by omega), rfl⟩
        · obtain ⟨A2, hA2⟩ : ∃ A2, acc + b % 128 * 16384 = A2 := ⟨_, rfl⟩
          have hv : bits .or .u64 (acc : Int) (IntKind.u64.wrap (IntKind.u64.wrap (bits .and .u8 (b : Int) 127) * 16384)) = (A2 : Int) := by
            simp (disch := omega) only [u8_and127, u64_wrap_id, u64_orv14]
            omega
          have Hnx : Hid (Lib.uvarintDec (l.drop p) = Lib.uvarintFrom 3 A2 (l.drop (p + 3))) := by
            have hx := dec_next (k := 2) (by decide) hlt' Hdec.out (by rw [← HB.out]; exact hb)
            rw [← HB.out, show (2 : Nat) ^ (7 * 2) = 16384 by decide, hA2] at hx
            exact hx
          have hlt2 : A2 < 2097152 := by omega
          have hbi : (128 : Int) ≤ (b : Int) := by omega
          clear hA2
          go_wp2
          go_round
          case rel => exact ⟨3, A2, rfl, rfl, by omega, by omega, by rw [show (2 : Nat) ^ (7 * 3) = 2097152 by decide]; exact hlt2, Hnx.out⟩
          case measure => simp [intOf]
      · have Hfin : Hid (halfR l p h = (0, p, false)) := fin_end hh hdec (by omega)
        clear hdec
        have hge : (n : Int) ≤ (p : Int) + 2 := by omega
        go_wp2
        go_ret3
        exact ⟨ret_half Hfin.out rfl rfl, rfl⟩
    · have hacc' : acc < 2097152 := by simpa using hacc
      by_cases hlt : p + 3 < n
      · have hc := hcell (p + 3) (by omega)
        have Hdec : Hid (Lib.uvarintDec (l.drop p) = Lib.uvarintFrom 3 acc (l.drop (p + 3))) := hdec
        clear hdec
        have hb256 : (l.getD (p + 3) 0).toNat < 256 := (l.getD (p + 3) 0).toNat_lt
        obtain ⟨b, hbd⟩ : ∃ b, b = (l.getD (p + 3) 0).toNat := ⟨_, rfl⟩
        have HB : Hid (b = (l.getD (p + 3) 0).toNat) := hbd
        rw [← hbd] at hc hb256
        clear hbd hcell
        have hlt' : p + 3 < l.length := by omega
        have hi1 : (p : Int) + 3 < (n : Int) := by omega
        by_cases hb : b < 128
        · have hbi : (b : Int) < 128 := by omega
          by_cases hz : b = 0
          · have Hfin : Hid (halfR l p h = (0, p, false)) := fin_zero (k := 3) hh (by decide) (by decide) hlt' Hdec.out (by rw [← HB.out]; exact hz)
            have hzi : ((b : Int) == 0) = true := by simpa using hz
            clear hz
            go_wp2
            go_ret3
            exact ⟨ret_half Hfin.out rfl rfl, rfl⟩
          · have hzi : ((b : Int) == 0) = false := by simpa using hz
            obtain ⟨V, hVd⟩ : ∃ V, acc + b * 2097152 = V := ⟨_, rfl⟩
            have hor : bits .or .u64 (acc : Int) ((b : Int) * 2097152) = (V : Int) := by
              rw [u64_orv21 _ _ (by omega) (by omega) (by omega) (by omega) (by omega)]
              omega
            have HV : Hid (acc + (l.getD (p + 3) 0).toNat * 2 ^ (7 * 3) = V) := by rw [← HB.out, show (2 : Nat) ^ (7 * 3) = 2097152 by decide]; exact hVd
            have h9 : ¬ (3 = 9 ∧ 1 < (l.getD (p + 3) 0).toNat) := by rw [← HB.out]; omega
            have hbn : (l.getD (p + 3) 0).toNat < 128 := by rw [← HB.out]; exact hb
            have hzn : ¬ (0 < 3 ∧ (l.getD (p + 3) 0).toNat = 0) := by rw [← HB.out]; omega
            have H9 : Hid _ := h9
            have HBN : Hid _ := hbn
            have HZN : Hid _ := hzn
            clear h9 hbn hzn
            have hbig : ¬ 18446744073709551600 < V := by omega
            have Hfin : Hid (halfR l p h = (15 + V, p + 3 + 1, true)) := fin_ok (k := 3) hh (by decide) hlt' Hdec.out HBN.out H9.out HZN.out HV.out hbig
            have hbi2 : (V : Int) ≤ 18446744073709551600 := by omega
            have hv0 : (0 : Int) ≤ (V : Int) := by omega
            clear hVd hbig
            go_wp2
            go_ret3
            exact ⟨ret_half Hfin.out (by omega) (by omega), rfl⟩
        · obtain ⟨A2, hA2⟩ : ∃ A2, acc + b % 128 * 2097152 = A2 := ⟨_, rfl⟩
          have hv : bits .or .u64 (acc : Int) (IntKind.u64.wrap (IntKind.u64.wrap (bits .and .u8 (b : Int) 127) * 2097152)) = (A2 : Int) := by
            simp (disch := omega) only [u8_and127, u64_wrap_id, u64_orv21]
            omega
          have Hnx : Hid (Lib.uvarintDec (l.drop p) = Lib.uvarintFrom 4 A2 (l.drop (p + 4))) := by
            have hx := dec_next (k := 3) (by decide) hlt' Hdec.out (by rw [← HB.out]; exact hb)
            rw [← HB.out, show (2 : Nat) ^ (7 * 3) = 2097152 by decide, hA2] at hx
            exact hx
          have hlt2 : A2 < 268435456 := by omega
          have hbi : (128 : Int) ≤ (b : Int) := by omega
          clear hA2
          go_wp2
          go_round
          case rel => exact ⟨4, A2, rfl, rfl, by omega, by omega, by rw [show (2 : Nat) ^ (7 * 4) = 268435456 by decide]; exact hlt2, Hnx.out⟩
          case measure => simp [intOf]
      · have Hfin : Hid (halfR l p h = (0, p, false)) := fin_end hh hdec (by omega)
        clear hdec
        have hge : (n : Int) ≤ (p : Int) + 3 := by omega
        go_wp2
        go_ret3
        exact ⟨ret_half Hfin.out rfl rfl, rfl⟩
    · have hacc' : acc < 268435456 := by simpa using hacc
      by_cases hlt : p + 4 < n
      · have hc := hcell (p + 4) (by omega)
        have Hdec : Hid (Lib.uvarintDec (l.drop p) = Lib.uvarintFrom 4 acc (l.drop (p + 4))) := hdec
        clear hdec
        have hb256 : (l.getD (p + 4) 0).toNat < 256 := (l.getD (p + 4) 0).toNat_lt
        obtain ⟨b, hbd⟩ : ∃ b, b = (l.getD (p + 4) 0).toNat := ⟨_, rfl⟩
        have HB : Hid (b = (l.getD (p + 4) 0).toNat) := hbd
        rw [← hbd] at hc hb256
        clear hbd hcell
        have hlt' : p + 4 < l.length := by omega
        have hi1 : (p : Int) + 4 < (n : Int) := by omega
        by_cases hb : b < 128
        · have hbi : (b : Int) < 128 := by omega
          by_cases hz : b = 0
          · have Hfin : Hid (halfR l p h = (0, p, false)) := fin_zero (k := 4) hh (by decide) (by decide) hlt' Hdec.out (by rw [← HB.out]; exact hz)
            have hzi : ((b : Int) == 0) = true := by simpa using hz
            clear hz
            go_wp2
            go_ret3
            exact ⟨ret_half Hfin.out rfl rfl, rfl⟩
          · have hzi : ((b : Int) == 0) = false := by simpa using hz
            obtain ⟨V, hVd⟩ : ∃ V, acc + b * 268435456 = V := ⟨_, rfl⟩
            have hor : bits .or .u64 (acc : Int) ((b : Int) * 268435456) = (V : Int) := by
              rw [u64_orv28 _ _ (by omega) (by omega) (by omega) (by omega) (by omega)]
              omega
            have HV : Hid (acc + (l.getD (p + 4) 0).toNat * 2 ^ (7 * 4) = V) := by rw [← HB.out, show (2 : Nat) ^ (7 * 4) = 268435456 by decide]; exact hVd
            have h9 : ¬ (4 = 9 ∧ 1 < (l.getD (p + 4) 0).toNat) := by rw [← HB.out]; omega
            have hbn : (l.getD (p + 4) 0).toNat < 128 := by rw [← HB.out]; exact hb
            have hzn : ¬ (0 < 4 ∧ (l.getD (p + 4) 0).toNat = 0) := by rw [← HB.out]; omega
            have H9 : Hid _ := h9
            have HBN : Hid _ := hbn
            have HZN : Hid _ := hzn
            clear h9 hbn hzn
            have hbig : ¬ 18446744073709551600 < V := by omega
            have Hfin : Hid (halfR l p h = (15 + V, p + 4 + 1, true)) := fin_ok (k := 4) hh (by decide) hlt' Hdec.out HBN.out H9.out HZN.out HV.out hbig
            have hbi2 : (V : Int) ≤ 18446744073709551600 := by omega
            have hv0 : (0 : Int) ≤ (V : Int) := by omega
            clear hVd hbig
            go_wp2
            go_ret3
            exact ⟨ret_half Hfin.out (by omega) (by omega), rfl⟩
        · obtain ⟨A2, hA2⟩ : ∃ A2, acc + b % 128 * 268435456 = A2 := ⟨_, rfl⟩
          have hv : bits .or .u64 (acc : Int) (IntKind.u64.wrap (IntKind.u64.wrap (bits .and .u8 (b : Int) 127) * 268435456)) = (A2 : Int) := by
            simp (disch := omega) only [u8_and127, u64_wrap_id, u64_orv28]
            omega
          have Hnx : Hid (Lib.uvarintDec (l.drop p) = Lib.uvarintFrom 5 A2 (l.drop (p + 5))) := by
            have hx := dec_next (k := 4) (by decide) hlt' Hdec.out (by rw [← HB.out]; exact hb)
            rw [← HB.out, show (2 : Nat) ^ (7 * 4) = 268435456 by decide, hA2] at hx
            exact hx
          have hlt2 : A2 < 34359738368 := by omega
          have hbi : (128 : Int) ≤ (b : Int) := by omega
          clear hA2
          go_wp2
          go_round
          case rel => exact ⟨5, A2, rfl, rfl, by omega, by omega, by rw [show (2 : Nat) ^ (7 * 5) = 34359738368 by decide]; exact hlt2, Hnx.out⟩
          case measure => simp [intOf]
      · have Hfin : Hid (halfR l p h = (0, p, false)) := fin_end hh hdec (by omega)
        clear hdec
        have hge : (n : Int) ≤ (p : Int) + 4 := by omega
        go_wp2
        go_ret3
        exact ⟨ret_half Hfin.out rfl rfl, rfl⟩
    · have hacc' : acc < 34359738368 := by simpa using hacc
      by_cases hlt : p + 5 < n
      · have hc := hcell (p + 5) (by omega)
        have Hdec : Hid (Lib.uvarintDec (l.drop p) = Lib.uvarintFrom 5 acc (l.drop (p + 5))) := hdec
        clear hdec
        have hb256 : (l.getD (p + 5) 0).toNat < 256 := (l.getD (p + 5) 0).toNat_lt
        obtain ⟨b, hbd⟩ : ∃ b, b = (l.getD (p + 5) 0).toNat := ⟨_, rfl⟩
        have HB : Hid (b = (l.getD (p + 5) 0).toNat) := hbd
        rw [← hbd] at hc hb256
        clear hbd hcell
        have hlt' : p + 5 < l.length := by omega
        have hi1 : (p : Int) + 5 < (n : Int) := by omega
        by_cases hb : b < 128
        · have hbi : (b : Int) < 128 := by omega
          by_cases hz : b = 0
          · have Hfin : Hid (halfR l p h = (0, p, false)) := fin_zero (k := 5) hh (by decide) (by decide) hlt' Hdec.out (by rw [← HB.out]; exact hz)
            have hzi : ((b : Int) == 0) = true := by simpa using hz
            clear hz
            go_wp2
            go_ret3
            exact ⟨ret_half Hfin.out rfl rfl, rfl⟩
          · have hzi : ((b : Int) == 0) = false := by simpa using hz
            obtain ⟨V, hVd⟩ : ∃ V, acc + b * 34359738368 = V := ⟨_, rfl⟩
            have hor : bits .or .u64 (acc : Int) ((b : Int) * 34359738368) = (V : Int) := by
              rw [u64_orv35 _ _ (by omega) (by omega) (by omega) (by omega) (by omega)]
              omega
            have HV : Hid (acc + (l.getD (p + 5) 0).toNat * 2 ^ (7 * 5) = V) := by rw [← HB.out, show (2 : Nat) ^ (7 * 5) = 34359738368 by decide]; exact hVd
            have h9 : ¬ (5 = 9 ∧ 1 < (l.getD (p + 5) 0).toNat) := by rw [← HB.out]; omega
            have hbn : (l.getD (p + 5) 0).toNat < 128 := by rw [← HB.out]; exact hb
            have hzn : ¬ (0 < 5 ∧ (l.getD (p + 5) 0).toNat = 0) := by rw [← HB.out]; omega
            have H9 : Hid _ := h9
            have HBN : Hid _ := hbn
            have HZN : Hid _ := hzn
            clear h9 hbn hzn
            have hbig : ¬ 18446744073709551600 < V := by omega
            have Hfin : Hid (halfR l p h = (15 + V, p + 5 + 1, true)) := fin_ok (k := 5) hh (by decide) hlt' Hdec.out HBN.out H9.out HZN.out HV.out hbig
            have hbi2 : (V : Int) ≤ 18446744073709551600 := by omega
            have hv0 : (0 : Int) ≤ (V : Int) := by omega
            clear hVd hbig
            go_wp2
            go_ret3
            exact ⟨ret_half Hfin.out (by omega) (by omega), rfl⟩
        · obtain ⟨A2, hA2⟩ : ∃ A2, acc + b % 128 * 34359738368 = A2 := ⟨_, rfl⟩
          have hv : bits .or .u64 (acc : Int) (IntKind.u64.wrap (IntKind.u64.wrap (bits .and .u8 (b : Int) 127) * 34359738368)) = (A2 : Int) := by
            simp (disch := omega) only [u8_and127, u64_wrap_id, u64_orv35]
            omega
          have Hnx : Hid (Lib.uvarintDec (l.drop p) = Lib.uvarintFrom 6 A2 (l.drop (p + 6))) := by
            have hx := dec_next (k := 5) (by decide) hlt' Hdec.out (by rw [← HB.out]; exact hb)
            rw [← HB.out, show (2 : Nat) ^ (7 * 5) = 34359738368 by decide, hA2] at hx
            exact hx
          have hlt2 : A2 < 4398046511104 := by omega
          have hbi : (128 : Int) ≤ (b : Int) := by omega
          clear hA2
          go_wp2
          go_round
          case rel => exact ⟨6, A2, rfl, rfl, by omega, by omega, by rw [show (2 : Nat) ^ (7 * 6) = 4398046511104 by decide]; exact hlt2, Hnx.out⟩
          case measure => simp [intOf]
      · have Hfin : Hid (halfR l p h = (0, p, false)) := fin_end hh hdec (by omega)
        clear hdec
        have hge : (n : Int) ≤ (p : Int) + 5 := by omega
        go_wp2
        go_ret3
        exact ⟨ret_half Hfin.out rfl rfl, rfl⟩
    · have hacc' : acc < 4398046511104 := by simpa using hacc
      by_cases hlt : p + 6 < n
      · have hc := hcell (p + 6) (by omega)
        have Hdec : Hid (Lib.uvarintDec (l.drop p) = Lib.uvarintFrom 6 acc (l.drop (p + 6))) := hdec
        clear hdec
        have hb256 : (l.getD (p + 6) 0).toNat < 256 := (l.getD (p + 6) 0).toNat_lt
        obtain ⟨b, hbd⟩ : ∃ b, b = (l.getD (p + 6) 0).toNat := ⟨_, rfl⟩
        have HB : Hid (b = (l.getD (p + 6) 0).toNat) := hbd
        rw [← hbd] at hc hb256
        clear hbd hcell
        have hlt' : p + 6 < l.length := by omega
        have hi1 : (p : Int) + 6 < (n : Int) := by omega
        by_cases hb : b < 128
        · have hbi : (b : Int) < 128 := by omega
          by_cases hz : b = 0
          · have Hfin : Hid (halfR l p h = (0, p, false)) := fin_zero (k := 6) hh (by decide) (by decide) hlt' Hdec.out (by rw [← HB.out]; exact hz)
            have hzi : ((b : Int) == 0) = true := by simpa using hz
            clear hz
            go_wp2
            go_ret3
            exact ⟨ret_half Hfin.out rfl rfl, rfl⟩
          · have hzi : ((b : Int) == 0) = false := by simpa using hz
            obtain ⟨V, hVd⟩ : ∃ V, acc + b * 4398046511104 = V := ⟨_, rfl⟩
            have hor : bits .or .u64 (acc : Int) ((b : Int) * 4398046511104) = (V : Int) := by
              rw [u64_orv42 _ _ (by omega) (by omega) (by omega) (by omega) (by omega)]
              omega
            have HV : Hid (acc + (l.getD (p + 6) 0).toNat * 2 ^ (7 * 6) = V) := by rw [← HB.out, show (2 : Nat) ^ (7 * 6) = 4398046511104 by decide]; exact hVd
            have h9 : ¬ (6 = 9 ∧ 1 < (l.getD (p + 6) 0).toNat) := by rw [← HB.out]; omega
            have hbn : (l.getD (p + 6) 0).toNat < 128 := by rw [← HB.out]; exact hb
            have hzn : ¬ (0 < 6 ∧ (l.getD (p + 6) 0).toNat = 0) := by rw [← HB.out]; omega
            have H9 : Hid _ := h9
            have HBN : Hid _ := hbn
            have HZN : Hid _ := hzn
            clear h9 hbn hzn
            have hbig : ¬ 18446744073709551600 < V := by omega
            have Hfin : Hid (halfR l p h = (15 + V, p + 6 + 1, true)) := fin_ok (k := 6) hh (by decide) hlt' Hdec.out HBN.out H9.out HZN.out HV.out hbig
            have hbi2 : (V : Int) ≤ 18446744073709551600 := by omega
            have hv0 : (0 : Int) ≤ (V : Int) := by omega
            clear hVd hbig
            go_wp2
            go_ret3
            exact ⟨ret_half Hfin.out (by omega) (by omega), rfl⟩
        · obtain ⟨A2, hA2⟩ : ∃ A2, acc + b % 128 * 4398046511104 = A2 := ⟨_, rfl⟩
          have hv : bits .or .u64 (acc : Int) (IntKind.u64.wrap (IntKind.u64.wrap (bits .and .u8 (b : Int) 127) * 4398046511104)) = (A2 : Int) := by
            simp (disch := omega) only [u8_and127, u64_wrap_id, u64_orv42]
            omega
          have Hnx : Hid (Lib.uvarintDec (l.drop p) = Lib.uvarintFrom 7 A2 (l.drop (p + 7))) := by
            have hx := dec_next (k := 6) (by decide) hlt' Hdec.out (by rw [← HB.out]; exact hb)
            rw [← HB.out, show (2 : Nat) ^ (7 * 6) = 4398046511104 by decide, hA2] at hx
            exact hx
          have hlt2 : A2 < 562949953421312 := by omega
          have hbi : (128 : Int) ≤ (b : Int) := by omega
          clear hA2
          go_wp2
          go_round
          case rel => exact ⟨7, A2, rfl, rfl, by omega, by omega, by rw [show (2 : Nat) ^ (7 * 7) = 562949953421312 by decide]; exact hlt2, Hnx.out⟩
          case measure => simp [intOf]
      · have Hfin : Hid (halfR l p h = (0, p, false)) := fin_end hh hdec (by omega)
        clear hdec
        have hge : (n : Int) ≤ (p : Int) + 6 := by omega
        go_wp2
        go_ret3
        exact ⟨ret_half Hfin.out rfl rfl, rfl⟩
    · have hacc' : acc < 562949953421312 := by simpa using hacc
      by_cases hlt : p + 7 < n
      · have hc := hcell (p + 7) (by omega)
        have Hdec : Hid (Lib.uvarintDec (l.drop p) = Lib.uvarintFrom 7 acc (l.drop (p + 7))) := hdec
        clear hdec
        have hb256 : (l.getD (p + 7) 0).toNat < 256 := (l.getD (p + 7) 0).toNat_lt
        obtain ⟨b, hbd⟩ : ∃ b, b = (l.getD (p + 7) 0).toNat := ⟨_, rfl⟩
        have HB : Hid (b = (l.getD (p + 7) 0).toNat) := hbd
        rw [← hbd] at hc hb256
        clear hbd hcell
        have hlt' : p + 7 < l.length := by omega
        have hi1 : (p : Int) + 7 < (n : Int) := by omega
        by_cases hb : b < 128
        · have hbi : (b : Int) < 128 := by omega
          by_cases hz : b = 0
          · have Hfin : Hid (halfR l p h = (0, p, false)) := fin_zero (k := 7) hh (by decide) (by decide) hlt' Hdec.out (by rw [← HB.out]; exact hz)
            have hzi : ((b : Int) == 0) = true := by simpa using hz
            clear hz
            go_wp2
            go_ret3
            exact ⟨ret_half Hfin.out rfl rfl, rfl⟩
          · have hzi : ((b : Int) == 0) = false := by simpa using hz
            obtain ⟨V, hVd⟩ : ∃ V, acc + b * 562949953421312 = V := ⟨_, rfl⟩
            have hor : bits .or .u64 (acc : Int) ((b : Int) * 562949953421312) = (V : Int) := by
              rw [u64_orv49 _ _ (by omega) (by omega) (by omega) (by omega) (by omega)]
              omega
            have HV : Hid (acc + (l.getD (p + 7) 0).toNat * 2 ^ (7 * 7) = V) := by rw [← HB.out, show (2 : Nat) ^ (7 * 7) = 562949953421312 by decide]; exact hVd
            have h9 : ¬ (7 = 9 ∧ 1 < (l.getD (p + 7) 0).toNat) := by rw [← HB.out]; omega
            have hbn : (l.getD (p + 7) 0).toNat < 128 := by rw [← HB.out]; exact hb
            have hzn : ¬ (0 < 7 ∧ (l.getD (p + 7) 0).toNat = 0) := by rw [← HB.out]; omega
            have H9 : Hid _ := h9
            have HBN : Hid _ := hbn
            have HZN : Hid _ := hzn
            clear h9 hbn hzn
            have hbig : ¬ 18446744073709551600 < V := by omega
            have Hfin : Hid (halfR l p h = (15 + V, p + 7 + 1, true)) := fin_ok (k := 7) hh (by decide) hlt' Hdec.out HBN.out H9.out HZN.out HV.out hbig
            have hbi2 : (V : Int) ≤ 18446744073709551600 := by omega
            have hv0 : (0 : Int) ≤ (V : Int) := by omega
            clear hVd hbig
            go_wp2
            go_ret3
            exact ⟨ret_half Hfin.out (by omega) (by omega), rfl⟩
        · obtain ⟨A2, hA2⟩ : ∃ A2, acc + b % 128 * 562949953421312 = A2 := ⟨_, rfl⟩
          have hv : bits .or .u64 (acc : Int) (IntKind.u64.wrap (IntKind.u64.wrap (bits .and .u8 (b : Int) 127) * 562949953421312)) = (A2 : Int) := by
            simp (disch := omega) only [u8_and127, u64_wrap_id, u64_orv49]
            omega
          have Hnx : Hid (Lib.uvarintDec (l.drop p) = Lib.uvarintFrom 8 A2 (l.drop (p + 8))) := by
            have hx := dec_next (k := 7) (by decide) hlt' Hdec.out (by rw [← HB.out]; exact hb)
            rw [← HB.out, show (2 : Nat) ^ (7 * 7) = 562949953421312 by decide, hA2] at hx
            exact hx
          have hlt2 : A2 < 72057594037927936 := by omega
          have hbi : (128 : Int) ≤ (b : Int) := by omega
          clear hA2
          go_wp2
          go_round
          case rel => exact ⟨8, A2, rfl, rfl, by omega, by omega, by rw [show (2 : Nat) ^ (7 * 8) = 72057594037927936 by decide]; exact hlt2, Hnx.out⟩
          case measure => simp [intOf]
      · have Hfin : Hid (halfR l p h = (0, p, false)) := fin_end hh hdec (by omega)
        clear hdec
        have hge : (n : Int) ≤ (p : Int) + 7 := by omega
        go_wp2
        go_ret3
        exact ⟨ret_half Hfin.out rfl rfl, rfl⟩
    · have hacc' : acc < 72057594037927936 := by simpa using hacc
      by_cases hlt : p + 8 < n
      · have hc := hcell (p + 8) (by omega)
        have Hdec : Hid (Lib.uvarintDec (l.drop p) = Lib.uvarintFrom 8 acc (l.drop (p + 8))) := hdec
        clear hdec
        have hb256 : (l.getD (p + 8) 0).toNat < 256 := (l.getD (p + 8) 0).toNat_lt
        obtain ⟨b, hbd⟩ : ∃ b, b = (l.getD (p + 8) 0).toNat := ⟨_, rfl⟩
        have HB : Hid (b = (l.getD (p + 8) 0).toNat) := hbd
        rw [← hbd] at hc hb256
        clear hbd hcell
        have hlt' : p + 8 < l.length := by omega
        have hi1 : (p : Int) + 8 < (n : Int) := by omega
        by_cases hb : b < 128
        · have hbi : (b : Int) < 128 := by omega
          by_cases hz : b = 0
          · have Hfin : Hid (halfR l p h = (0, p, false)) := fin_zero (k := 8) hh (by decide) (by decide) hlt' Hdec.out (by rw [← HB.out]; exact hz)
            have hzi : ((b : Int) == 0) = true := by simpa using hz
            clear hz
            go_wp2
            go_ret3
            exact ⟨ret_half Hfin.out rfl rfl, rfl⟩
          · have hzi : ((b : Int) == 0) = false := by simpa using hz
            obtain ⟨V, hVd⟩ : ∃ V, acc + b * 72057594037927936 = V := ⟨_, rfl⟩
            have hor : bits .or .u64 (acc : Int) ((b : Int) * 72057594037927936) = (V : Int) := by
              rw [u64_orv56 _ _ (by omega) (by omega) (by omega) (by omega) (by omega)]
              omega
            have HV : Hid (acc + (l.getD (p + 8) 0).toNat * 2 ^ (7 * 8) = V) := by rw [← HB.out, show (2 : Nat) ^ (7 * 8) = 72057594037927936 by decide]; exact hVd
            have h9 : ¬ (8 = 9 ∧ 1 < (l.getD (p + 8) 0).toNat) := by rw [← HB.out]; omega
            have hbn : (l.getD (p + 8) 0).toNat < 128 := by rw [← HB.out]; exact hb
            have hzn : ¬ (0 < 8 ∧ (l.getD (p + 8) 0).toNat = 0) := by rw [← HB.out]; omega
            have H9 : Hid _ := h9
            have HBN : Hid _ := hbn
            have HZN : Hid _ := hzn
            clear h9 hbn hzn
            have hbig : ¬ 18446744073709551600 < V := by omega
            have Hfin : Hid (halfR l p h = (15 + V, p + 8 + 1, true)) := fin_ok (k := 8) hh (by decide) hlt' Hdec.out HBN.out H9.out HZN.out HV.out hbig
            have hbi2 : (V : Int) ≤ 18446744073709551600 := by omega
            have hv0 : (0 : Int) ≤ (V : Int) := by omega
            clear hVd hbig
            go_wp2
            go_ret3
            exact ⟨ret_half Hfin.out (by omega) (by omega), rfl⟩
        · obtain ⟨A2, hA2⟩ : ∃ A2, acc + b % 128 * 72057594037927936 = A2 := ⟨_, rfl⟩
          have hv : bits .or .u64 (acc : Int) (IntKind.u64.wrap (IntKind.u64.wrap (bits .and .u8 (b : Int) 127) * 72057594037927936)) = (A2 : Int) := by
            simp (disch := omega) only [u8_and127, u64_wrap_id, u64_orv56]
            omega
          have Hnx : Hid (Lib.uvarintDec (l.drop p) = Lib.uvarintFrom 9 A2 (l.drop (p + 9))) := by
            have hx := dec_next (k := 8) (by decide) hlt' Hdec.out (by rw [← HB.out]; exact hb)
            rw [← HB.out, show (2 : Nat) ^ (7 * 8) = 72057594037927936 by decide, hA2] at hx
            exact hx
          have hlt2 : A2 < 9223372036854775808 := by omega
          have hbi : (128 : Int) ≤ (b : Int) := by omega
          clear hA2
          go_wp2
          go_round
          case rel => exact ⟨9, A2, rfl, rfl, by omega, by omega, by rw [show (2 : Nat) ^ (7 * 9) = 9223372036854775808 by decide]; exact hlt2, Hnx.out⟩
          case measure => simp [intOf]
      · have Hfin : Hid (halfR l p h = (0, p, false)) := fin_end hh hdec (by omega)
        clear hdec
        have hge : (n : Int) ≤ (p : Int) + 8 := by omega
        go_wp2
        go_ret3
        exact ⟨ret_half Hfin.out rfl rfl, rfl⟩
    · have hacc' : acc < 9223372036854775808 := by simpa using hacc
      by_cases hlt : p + 9 < n
      · have hc := hcell (p + 9) (by omega)
        have Hdec : Hid (Lib.uvarintDec (l.drop p) = Lib.uvarintFrom 9 acc (l.drop (p + 9))) := hdec
        clear hdec
        have hb256 : (l.getD (p + 9) 0).toNat < 256 := (l.getD (p + 9) 0).toNat_lt
        obtain ⟨b, hbd⟩ : ∃ b, b = (l.getD (p + 9) 0).toNat := ⟨_, rfl⟩
        have HB : Hid (b = (l.getD (p + 9) 0).toNat) := hbd
        rw [← hbd] at hc hb256
        clear hbd hcell
        have hlt' : p + 9 < l.length := by omega
        have hi1 : (p : Int) + 9 < (n : Int) := by omega
        by_cases hb : b < 128
        · have hbi : (b : Int) < 128 := by omega
          by_cases h1b : 1 < b
          · have Hfin : Hid (halfR l p h = (0, p, false)) := fin_over hh hlt' Hdec.out (by rw [← HB.out]; exact hb) (by rw [← HB.out]; exact h1b)
            have h1i : (1 : Int) < (b : Int) := by omega
            go_wp2
            go_ret3
            exact ⟨ret_half Hfin.out rfl rfl, rfl⟩
          · have h1i : (b : Int) ≤ 1 := by omega
            by_cases hz : b = 0
            · have Hfin : Hid (halfR l p h = (0, p, false)) := fin_zero (k := 9) hh (by decide) (by decide) hlt' Hdec.out (by rw [← HB.out]; exact hz)
              have hzi : ((b : Int) == 0) = true := by simpa using hz
              clear hz
              go_wp2
              go_ret3
              exact ⟨ret_half Hfin.out rfl rfl, rfl⟩
            · have hzi : ((b : Int) == 0) = false := by simpa using hz
              obtain ⟨V, hVd⟩ : ∃ V, acc + b * 9223372036854775808 = V := ⟨_, rfl⟩
              have hor : bits .or .u64 (acc : Int) ((b : Int) * 9223372036854775808) = (V : Int) := by
                rw [u64_orv63 _ _ (by omega) (by omega) (by omega) (by omega) (by omega)]
                omega
              have HV : Hid (acc + (l.getD (p + 9) 0).toNat * 2 ^ (7 * 9) = V) := by rw [← HB.out, show (2 : Nat) ^ (7 * 9) = 9223372036854775808 by decide]; exact hVd
              have h9 : ¬ (9 = 9 ∧ 1 < (l.getD (p + 9) 0).toNat) := by rw [← HB.out]; omega
              have hbn : (l.getD (p + 9) 0).toNat < 128 := by rw [← HB.out]; exact hb
              have hzn : ¬ (0 < 9 ∧ (l.getD (p + 9) 0).toNat = 0) := by rw [← HB.out]; omega
              have H9 : Hid _ := h9
              have HBN : Hid _ := hbn
              have HZN : Hid _ := hzn
              clear h9 hbn hzn
              by_cases hbig : 18446744073709551600 < V
              · have Hfin : Hid (halfR l p h = (0, p + 9 + 1, false)) := fin_big (k := 9) hh (by decide) hlt' Hdec.out HBN.out H9.out HZN.out HV.out hbig
                have hbi2 : (18446744073709551600 : Int) < (V : Int) := by omega
                clear hVd hbig
                go_wp2
                go_ret3
                exact ⟨ret_half Hfin.out rfl (by omega), rfl⟩
              · have Hfin : Hid (halfR l p h = (15 + V, p + 9 + 1, true)) := fin_ok (k := 9) hh (by decide) hlt' Hdec.out HBN.out H9.out HZN.out HV.out hbig
                have hbi2 : (V : Int) ≤ 18446744073709551600 := by omega
                have hv0 : (0 : Int) ≤ (V : Int) := by omega
                clear hVd hbig
                go_wp2
                go_ret3
                exact ⟨ret_half Hfin.out (by omega) (by omega), rfl⟩
        · obtain ⟨A2, hA2⟩ : ∃ A2 : Nat, bits .or .u64 (acc : Int) (IntKind.u64.wrap (IntKind.u64.wrap (bits .and .u8 (b : Int) 127) * 9223372036854775808)) = (A2 : Int) := ⟨_, (Int.toNat_of_nonneg (bits_lo_u64 _ _ _)).symm⟩
          have hhi := bits_hi_u64 .or (acc : Int) (IntKind.u64.wrap (IntKind.u64.wrap (bits .and .u8 (b : Int) 127) * 9223372036854775808))
          rw [hA2] at hhi
          have Hnx : Hid (Lib.uvarintDec (l.drop p) = Lib.uvarintFrom 10 A2 (l.drop (p + 10))) := by
            have hx := dec_next (k := 9) (by decide) hlt' Hdec.out (by rw [← HB.out]; exact hb)
            rw [Lib.uvarintFrom_ten _ A2] at hx
            exact hx
          have hlt2 : A2 < 1180591620717411303424 := by omega
          have hv := hA2
          have hbi : (128 : Int) ≤ (b : Int) := by omega
          clear hA2
          go_wp2
          go_round
          case rel => exact ⟨10, A2, rfl, rfl, by omega, by omega, by rw [show (2 : Nat) ^ (7 * 10) = 1180591620717411303424 by decide]; exact hlt2, Hnx.out⟩
          case measure => simp [intOf]
      · have Hfin : Hid (halfR l p h = (0, p, false)) := fin_end hh hdec (by omega)
        clear hdec
        have hge : (n : Int) ≤ (p : Int) + 9 := by omega
        go_wp2
        go_ret3
        exact ⟨ret_half Hfin.out rfl rfl, rfl⟩
    · have Hfin : Hid (halfR l p h = (0, p, false)) := fin_ten hh hdec
      clear hdec
      go_wp2
      go_ret3
      exact ⟨ret_half Hfin.out rfl rfl, rfl⟩
end Go.Proofs.Ybulkejju.lawS6780BWhole
