import Derived.Lib.VarintDec
namespace Go.Proofs.Ybulkejju.Plain
open Go

/-- What one half of a pair's byte stands for: the number, the position behind the read, and whether it was well formed. -/
def halfR (l : List UInt8) (p h : Nat) : Nat × Nat × Bool :=
  if h < 15 then (h, p, true)
  else if (Lib.uvarintDec (l.drop p)).2 ≤ 0 then (0, p, false)
  else if 1 < (Lib.uvarintDec (l.drop p)).2 ∧ (l.getD (p + (Lib.uvarintDec (l.drop p)).2.toNat - 1) 0).toNat = 0 then (0, p, false)
  else if 18446744073709551600 < (Lib.uvarintDec (l.drop p)).1 then (0, p + (Lib.uvarintDec (l.drop p)).2.toNat, false)
  else (15 + (Lib.uvarintDec (l.drop p)).1, p + (Lib.uvarintDec (l.drop p)).2.toNat, true)

theorem halfR_small (l : List UInt8) (p h : Nat) (hh : h < 15) : halfR l p h = (h, p, true) := by
  unfold halfR; rw [if_pos hh]

theorem halfR_none (l : List UInt8) (p h : Nat) (hh : ¬ h < 15) (hn : (Lib.uvarintDec (l.drop p)).2 ≤ 0) : halfR l p h = (0, p, false) := by
  unfold halfR; rw [if_neg hh, if_pos hn]

theorem halfR_zero (l : List UInt8) (p h : Nat) (hh : ¬ h < 15) (hn : 1 < (Lib.uvarintDec (l.drop p)).2)
    (h0 : (l.getD (p + (Lib.uvarintDec (l.drop p)).2.toNat - 1) 0).toNat = 0) : halfR l p h = (0, p, false) := by
  unfold halfR; rw [if_neg hh, if_neg (by omega), if_pos ⟨hn, h0⟩]

theorem halfR_big (l : List UInt8) (p h : Nat) (hh : ¬ h < 15) (hn : 0 < (Lib.uvarintDec (l.drop p)).2)
    (h0 : ¬ (1 < (Lib.uvarintDec (l.drop p)).2 ∧ (l.getD (p + (Lib.uvarintDec (l.drop p)).2.toNat - 1) 0).toNat = 0))
    (hv : 18446744073709551600 < (Lib.uvarintDec (l.drop p)).1) : halfR l p h = (0, p + (Lib.uvarintDec (l.drop p)).2.toNat, false) := by
  unfold halfR; rw [if_neg hh, if_neg (by omega), if_neg h0, if_pos hv]

theorem halfR_ok (l : List UInt8) (p h : Nat) (hh : ¬ h < 15) (hn : 0 < (Lib.uvarintDec (l.drop p)).2)
    (h0 : ¬ (1 < (Lib.uvarintDec (l.drop p)).2 ∧ (l.getD (p + (Lib.uvarintDec (l.drop p)).2.toNat - 1) 0).toNat = 0))
    (hv : ¬ 18446744073709551600 < (Lib.uvarintDec (l.drop p)).1) : halfR l p h = (15 + (Lib.uvarintDec (l.drop p)).1, p + (Lib.uvarintDec (l.drop p)).2.toNat, true) := by
  unfold halfR; rw [if_neg hh, if_neg (by omega), if_neg h0, if_neg hv]

/-! What the model's loop comes to, k bytes read. -/
section
variable {l : List UInt8} {p h k acc : Nat} {b : UInt8}

theorem fin_end (hh : ¬ h < 15) (hdec : Lib.uvarintDec (l.drop p) = Lib.uvarintFrom k acc (l.drop (p + k))) (hend : l.length ≤ p + k) : halfR l p h = (0, p, false) := by
  refine halfR_none l p h hh ?_
  rw [hdec, List.drop_eq_nil_of_le hend]
  exact Int.le_refl 0

theorem from_ten (r : List UInt8) : (Lib.uvarintFrom 10 acc r).2 ≤ 0 := by
  cases r with
  | nil => exact Int.le_refl 0
  | cons x r => simp [Lib.uvarintFrom]

theorem fin_ten (hh : ¬ h < 15) (hdec : Lib.uvarintDec (l.drop p) = Lib.uvarintFrom 10 acc (l.drop (p + 10))) : halfR l p h = (0, p, false) := by
  refine halfR_none l p h hh ?_
  rw [hdec]
  exact from_ten _

theorem drop_at (hlt : p + k < l.length) : l.drop (p + k) = l.getD (p + k) 0 :: l.drop (p + (k + 1)) := by
  rw [List.drop_eq_getElem_cons hlt]
  simp [hlt, Nat.add_assoc]

theorem dec_next (hk : k ≠ 10) (hlt : p + k < l.length) (hdec : Lib.uvarintDec (l.drop p) = Lib.uvarintFrom k acc (l.drop (p + k))) (hb : ¬ (l.getD (p + k) 0).toNat < 128) :
    Lib.uvarintDec (l.drop p) = Lib.uvarintFrom (k + 1) (acc + (l.getD (p + k) 0).toNat % 128 * 2 ^ (7 * k)) (l.drop (p + (k + 1))) := by
  rw [hdec, drop_at hlt]
  simp only [Lib.uvarintFrom]
  rw [if_neg hk, if_neg hb]

theorem dec_last (hk : k ≠ 10) (hlt : p + k < l.length) (hdec : Lib.uvarintDec (l.drop p) = Lib.uvarintFrom k acc (l.drop (p + k))) (hb : (l.getD (p + k) 0).toNat < 128)
    (h9 : ¬ (k = 9 ∧ 1 < (l.getD (p + k) 0).toNat)) :
    Lib.uvarintDec (l.drop p) = (acc + (l.getD (p + k) 0).toNat * 2 ^ (7 * k), (k : Int) + 1) := by
  rw [hdec, drop_at hlt]
  simp only [Lib.uvarintFrom]
  rw [if_neg hk, if_pos hb, if_neg h9]

theorem fin_over (hh : ¬ h < 15) (hlt : p + 9 < l.length) (hdec : Lib.uvarintDec (l.drop p) = Lib.uvarintFrom 9 acc (l.drop (p + 9))) (hb : (l.getD (p + 9) 0).toNat < 128)
    (h1 : 1 < (l.getD (p + 9) 0).toNat) : halfR l p h = (0, p, false) := by
  refine halfR_none l p h hh ?_
  rw [hdec, drop_at hlt]
  simp only [Lib.uvarintFrom]
  rw [if_neg (by decide), if_pos hb, if_pos ⟨trivial, h1⟩]
  decide

theorem fin_zero (hh : ¬ h < 15) (hk : k ≠ 10) (hk0 : 0 < k) (hlt : p + k < l.length) (hdec : Lib.uvarintDec (l.drop p) = Lib.uvarintFrom k acc (l.drop (p + k)))
    (hb : (l.getD (p + k) 0).toNat = 0) : halfR l p h = (0, p, false) := by
  have hd := dec_last hk hlt hdec (by omega) (by omega)
  have h2 : (Lib.uvarintDec (l.drop p)).2 = (k : Int) + 1 := by rw [hd]
  refine halfR_zero l p h hh (by omega) ?_
  rw [h2]
  rw [show p + ((k : Int) + 1).toNat - 1 = p + k by omega]
  exact hb

theorem fin_big (hh : ¬ h < 15) (hk : k ≠ 10) (hlt : p + k < l.length) (hdec : Lib.uvarintDec (l.drop p) = Lib.uvarintFrom k acc (l.drop (p + k)))
    (hb : (l.getD (p + k) 0).toNat < 128) (h9 : ¬ (k = 9 ∧ 1 < (l.getD (p + k) 0).toNat)) (hz : ¬ (0 < k ∧ (l.getD (p + k) 0).toNat = 0))
    {V : Nat} (hV : acc + (l.getD (p + k) 0).toNat * 2 ^ (7 * k) = V) (hbig : 18446744073709551600 < V) : halfR l p h = (0, p + k + 1, false) := by
  have hd := dec_last hk hlt hdec hb h9
  rw [hV] at hd
  have h2 : (Lib.uvarintDec (l.drop p)).2 = (k : Int) + 1 := by rw [hd]
  have h1 : (Lib.uvarintDec (l.drop p)).1 = V := by rw [hd]
  have e : p + ((k : Int) + 1).toNat - 1 = p + k := by omega
  rw [halfR_big l p h hh (by omega) (by rw [h2, e]; omega) (by rw [h1]; exact hbig), h2]
  rw [show p + ((k : Int) + 1).toNat = p + k + 1 by omega]

theorem fin_ok (hh : ¬ h < 15) (hk : k ≠ 10) (hlt : p + k < l.length) (hdec : Lib.uvarintDec (l.drop p) = Lib.uvarintFrom k acc (l.drop (p + k)))
    (hb : (l.getD (p + k) 0).toNat < 128) (h9 : ¬ (k = 9 ∧ 1 < (l.getD (p + k) 0).toNat)) (hz : ¬ (0 < k ∧ (l.getD (p + k) 0).toNat = 0))
    {V : Nat} (hV : acc + (l.getD (p + k) 0).toNat * 2 ^ (7 * k) = V) (hbig : ¬ 18446744073709551600 < V) : halfR l p h = (15 + V, p + k + 1, true) := by
  have hd := dec_last hk hlt hdec hb h9
  rw [hV] at hd
  have h2 : (Lib.uvarintDec (l.drop p)).2 = (k : Int) + 1 := by rw [hd]
  have h1 : (Lib.uvarintDec (l.drop p)).1 = V := by rw [hd]
  have e : p + ((k : Int) + 1).toNat - 1 = p + k := by omega
  rw [halfR_ok l p h hh (by omega) (by rw [h2, e]; omega) (by rw [h1]; exact hbig), h2, h1]
  rw [show p + ((k : Int) + 1).toNat = p + k + 1 by omega]
end

/-- What is read is a uint64; the position stays inside. -/
theorem uvarintFrom_le : ∀ (r : List UInt8) (i acc : Nat), (Lib.uvarintFrom i acc r).2 ≤ (i : Int) + r.length
  | [], i, acc => by simp [Lib.uvarintFrom]
  | b :: r, i, acc => by
    simp only [Lib.uvarintFrom]
    split
    · simp; omega
    · split
      · split
        · simp; omega
        · simp; omega
      · have := uvarintFrom_le r (i + 1) (acc + b.toNat % 128 * 2 ^ (7 * i))
        simp only [List.length_cons]
        omega

theorem dec_le (l : List UInt8) (p : Nat) (hp : p ≤ l.length) : (Lib.uvarintDec (l.drop p)).2 + p ≤ l.length := by
  have := uvarintFrom_le (l.drop p) 0 0
  unfold Lib.uvarintDec
  simp at this
  omega
end Go.Proofs.Ybulkejju.Plain
