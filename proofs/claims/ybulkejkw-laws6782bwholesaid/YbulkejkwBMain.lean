import Derived.Test.YbulkejkwBFin
import Derived.LaidEql
import Derived.Deep.QuietTactic
import Derived.BigQuiet
namespace Go.Proofs.Ybulkejkw.lawS6782BWhole
open Go.RowKit
set_option linter.unusedVariables false

theorem info62 : (Yba.prog.info? 62).map (fun i => (i.zero, i.size, i.bytes)) = some (some (.pointer none), 1, 8) := by kernel_rfl
theorem info9 : (Yba.prog.info? 9).map (fun i => (i.zero, i.size, i.bytes)) = some (some (.string ByteArray.empty), 1, 16) := by kernel_rfl

/-- 'make([]T, 0, n)', T of one cell. -/
theorem make0 {P : Program} (t e : TypeId) (z : Value) (bytes : Nat) (ht : P.underlying t = some (.slice e)) (hinfo : (P.info? e).map (fun i => (i.zero, i.size, i.bytes)) = some (some z, 1, bytes)) (hz1 : z.cells = #[z])
    (n : Nat) (hbytes : bytes * n ≤ 281474976710656) (h63 : n ≤ 9223372036854775807) (w : World) :
    (Instr.makeSlice t (.int .i64 0) (.int .i64 (n : Int))).run P w = .ok (.slice (some ⟨w.heap.size, 0, none⟩) 0 n) (w.alloc (.cells (madeCells #[z] n) e)) := by
  obtain ⟨i, hi, hzz⟩ := Option.map_eq_some_iff.1 hinfo
  simp only [Prod.mk.injEq] at hzz
  obtain ⟨hz, hs, hb⟩ := hzz
  have hb' : (i.bytes : Int) * (n : Int) ≤ 281474976710656 := by
    have h : ((i.bytes * n : Nat) : Int) ≤ 281474976710656 := by rw [hb]; omega
    rwa [Int.natCast_mul] at h
  have hr := run_make (P := P) w t e i z ht hi hz .i64 .i64 0 n (by omega) (by omega) hb' (by omega)
  simp only [Int.toNat_natCast, hs, Nat.mul_one, hz1] at hr
  exact hr

theorem frozen_new (w : World) (b i : Nat) (h : w.heap.size ≤ b) : w.frozen? ⟨b, i, none⟩ = false := by
  unfold World.frozen?
  rw [Array.getElem?_eq_none h]

/-- An append whose run is known. -/
theorem wpList_append_run {P : Program} (w : World) {ops : Array Oper} {rest : List Oper} {o : Oper} {a : Act} {Q : Exit → Act → World → Prop} (hgd : o.guard = none) (s x : Operand) (t : TypeId)
    (ho : o.op = .call { callee := .builtin .append, args := #[s, x], argTypes := #[t, t] }) (v u : Value) (hs : a.eval s = v) (hx : a.eval x = u) {v' : Value} {w' : World}
    (hr : (Builtin.append_ #[t, t] o.type #[v, u]).run P w = .ok v' w') (h : wpList P ops Q rest (a.put o.dst v') w') : wpList P ops Q (o :: rest) a w := by
  refine wpList_plain hgd fun K hK => ?_
  unfold Oper.wp
  simp [execOp, ho, resolve, invoke, builtin, hs, hx, hr, Result.andThen]
  exact hK _ _ h

theorem equalIn_self {P : Program} (d : Nat) {t e : TypeId} {j : TypeInfo} (p : Option Addr) (w : World) (ht : P.underlying t = some (.pointer e)) (hj : P.info? e = some j) :
    (Op.equalIn (d + 1) t (.pointer p) (.pointer p)).run P w = .ok true w := by
  cases p <;> simp [Op.equalIn, run_underlying ht, sizeOf, typeInfo, hj, run_sameAddr_same]
theorem info73 : (Yba.prog.info? 73).map (fun i => i.size) = some 4 := by kernel_rfl
/-- '!=' between a pointer and itself. -/
theorem neq_member (p : Option Addr) (w : World) : (binOp .neq 62 (.pointer p) (.pointer p)).run Yba.prog w = .ok (.bool false) w := by
  obtain ⟨j, hj, _⟩ := Option.map_eq_some_iff.1 info73
  have h : (Op.equal 62 (.pointer p) (.pointer p)).run Yba.prog w = .ok true w := equalIn_self 9999 p w Yba.underlying62 hj
  simp only [binOp]
  simp [h]

/-- What the law is told of its steps. -/
def StepsAt (b o len : Nat) (w : World) : Prop :=
  ∀ i, i < len → ∃ (rm : Bool) (pk : Nat) (nm : ByteArray), pk ≤ 65535 ∧ w.cell? ⟨b, o + i * 3, none⟩ = some (.bool rm) ∧ w.cell? ⟨b, o + i * 3 + 1, none⟩ = some (.int .u16 pk) ∧ w.cell? ⟨b, o + i * 3 + 2, none⟩ = some (.string nm)

set_option maxHeartbeats 1600000 in
set_option maxRecDepth 100000 in
theorem walk_some (ao : Option Addr) (len cap : Nat) (extra : Int) (name : ByteArray) (left : Bool) (w : World) (hlen : len ≤ 65536) (ha : 0 < len → ∃ b o, ao = some ⟨b, o, none⟩ ∧ b < w.heap.size ∧ StepsAt b o len w) :
    Calls Yba.prog 4 #[.slice ao len cap, .int .i64 extra, .string name, .bool left] w fun e w' => e = .returned (.bool true) ∧ Below w.heap.size w w' := by
  have hd : decide ((65536 : Int) < (len : Int)) = false := decide_eq_false (by omega)
  have hm1 := make0 (P := Yba.prog) 65 62 (.pointer none) 8 Yba.underlying65 info62 rfl len (by omega) (by omega)
  have hm2 := make0 (P := Yba.prog) 54 9 (.string ByteArray.empty) 16 Yba.underlying54 info9 rfl len (by omega) (by omega)
  have h0 := all_start w len (frozen_new w)
  have H0 : Hid (AllI w.heap.size len w [] [] [] [] (((w.alloc (.cells #[.pointer none, .pointer none, .int .i64 0] 64)).alloc (.cells (madeCells #[.pointer none] len) 62)).alloc (.cells (madeCells #[.string ByteArray.empty] len) 9))) := h0
  have HA : Hid (0 < len → ∃ b o, ao = some ⟨b, o, none⟩ ∧ b < w.heap.size ∧ StepsAt b o len w) := ha
  clear h0 ha
  go_enter Yba.func4, Yba.ntmps4
  go_wp2
  go_loopw [10, 11, 12, 13, 14, 15] (fun m n i s k mm wr => ∃ (c : Nat) (ms : List Nat) (ns : List ByteArray), c ≤ len ∧ ms.length ≤ c ∧ i = .int .i64 c ∧ m = .slice (some ⟨w.heap.size + 1, 0, none⟩) ms.length len ∧ n = .slice (some ⟨w.heap.size + 1 + 1, 0, none⟩) ns.length len ∧ AllI w.heap.size len w ms ns ms ns wr)
    (fun _ _ i _ _ _ _ => len - (intOf i).toNat)
  case atStart => exact ⟨0, [], [], Nat.zero_le _, Nat.zero_le _, rfl, rfl, rfl, H0.out⟩
  case round =>
    obtain ⟨c, ms, ns, hc, hmc, rfl, rfl, rfl, hall⟩ := hrel
    clear H0
    by_cases hlt : c < len
    · obtain ⟨b, o, rfl, hbl, hst⟩ := HA.out (by omega)
      obtain ⟨rm, pk, nm, hpk, c0, c1, c2⟩ := hst c hlt
      clear hst
      rw [← hall.below.cell (p := ⟨b, o + c * 3, none⟩) hbl] at c0
      rw [← hall.below.cell (p := ⟨b, o + c * 3 + 1, none⟩) hbl] at c1
      rw [← hall.below.cell (p := ⟨b, o + c * 3 + 2, none⟩) hbl] at c2
      have hi : (c : Int) < (len : Int) := by omega
      have hns := hall.roll.len
      have HNS : Hid (ns.length = ms.length) := hns
      clear hns
      by_cases hrm : rm = true ∧ 0 < ms.length
      · obtain ⟨rfl, hml⟩ := hrm
        have hdm : decide ((0 : Int) < (ms.length : Int)) = true := decide_eq_true (by omega)
        obtain ⟨k, hk⟩ : ∃ k, pk % ms.length = k := ⟨_, rfl⟩
        have hkl : k < ms.length := by rw [← hk]; exact Nat.mod_lt _ hml
        have hki : (pk : Int) % (ms.length : Int) = (k : Int) := by
          have := congrArg (fun n : Nat => (n : Int)) hk
          simpa using this
        have hkt : (pk : Int).tmod (ms.length : Int) = (k : Int) := by rw [Int.tmod_eq_emod_of_nonneg (by omega)]; exact hki
        obtain ⟨m, hm⟩ : ∃ m, ms[k]? = some m := ⟨ms[k], List.getElem?_eq_getElem hkl⟩
        have hall1 := hall.alloc #[.bool true, .int .u16 pk, .string nm] 68
        have hwz := hall.sz
        have hmk : wr.cell? ⟨w.heap.size + 1, k, none⟩ = some (.pointer (some ⟨m, 0, none⟩)) := hall.model.cell k (mval m) (by rw [List.getElem?_map, hm]; rfl)
        have hw1 : w.heap.size + 1 < wr.heap.size := by omega
        have hr := remove_said hall1 hm
        have hkl' : (k : Int) < (ms.length : Int) := by omega
        have hk0 : (0 : Int) ≤ (k : Int) := by omega
        clear hk hm hall hall1 hml
        go_wp2_with fail
        refine hr.mono ?_
        rintro e w2 ⟨rfl, hall2⟩
        have hd1 := del1_said hall2 (k := k) hkl hlen
        go_wp2_with fail
        rw [show ((k : Int) + 1) = ((k + 1 : Nat) : Int) by omega]
        refine hd1.mono ?_
        rintro e w3 ⟨rfl, hall3⟩
        have hd2 := del2_said hall3 (k := k) (by rw [HNS.out]; exact hkl) hlen
        clear hr hd1 hmk
        go_wp2_with fail
        rw [show ((k : Int) + 1) = ((k + 1 : Nat) : Int) by omega]
        refine hd2.mono ?_
        rintro e w4 ⟨rfl, hall4⟩
        have hle : (ms.eraseIdx k).length ≤ c := by rw [List.length_eraseIdx, if_pos hkl]; omega
        clear hd2 hall2 hall3
        go_wp2
        go_roundw
        case rel => exact ⟨c + 1, ms.eraseIdx k, ns.eraseIdx k, by omega, by omega, by go_num, rfl, rfl, hall4⟩
        case measure => simp [intOf]; omega
      · cases rm
        · clear hrm
          have hall1 := hall.alloc #[.bool false, .int .u16 pk, .string nm] 68
          have hsz1 : (wr.alloc (.cells #[.bool false, .int .u16 pk, .string nm] 68)).heap.size = wr.heap.size + 1 := World.size_alloc _ _
          have hp := push_said hall1 nm false
          rw [hsz1] at hp
          have hwz := hall.sz
          have hmlt : ∀ x ∈ ms, x < wr.heap.size := hall.roll.lt
          have hsc : ((wr.alloc (.cells #[.bool false, .int .u16 pk, .string nm] 68)).alloc (.cells #[.string nm, .pointer none, .pointer none, .bool false] 73)).cell? ⟨wr.heap.size, 2, none⟩ = some (.string nm) := by
            rw [World.cell?_alloc_past _ _ _ (by rw [hsz1]; omega), World.cell?_alloc_mark]; rfl
          have HSC : Hid (((wr.alloc (.cells #[.bool false, .int .u16 pk, .string nm] 68)).alloc (.cells #[.string nm, .pointer none, .pointer none, .bool false] 73)).cell? ⟨wr.heap.size, 2, none⟩ = some (.string nm)) := hsc
          have HMLT : Hid (∀ x ∈ ms, x < wr.heap.size) := hmlt
          clear hsz1 hall1 hsc hmlt
          go_wp2_with fail
          refine hp.mono ?_
          rintro e w2 ⟨rfl, hs2, hb2, hf2, hroll2, hflag2, hfl2, hmod2, hnam2, hoth2, _⟩
          have hall2 : AllI w.heap.size len w (ms ++ [wr.heap.size + 1]) (ns ++ [nm]) ms ns w2 := ⟨by omega, hb2, hf2, hroll2, fun x hx => by
            rcases List.mem_append.1 hx with hx | hx
            · exact hflag2 x hx
            · simp at hx; subst hx; exact hfl2, hmod2, hnam2⟩
          have hsc2 : w2.cell? ⟨wr.heap.size, 2, none⟩ = some (.string nm) := by
            rw [hoth2 _ _ (by omega) (by omega) (fun hx => Nat.lt_irrefl _ (HMLT.out _ hx))]; exact HSC.out
          obtain ⟨w3, hrun3, hall3, hoth3⟩ := app1_said hall2 (by omega) (wr.heap.size + 1)
          have hsc3 : w3.cell? ⟨wr.heap.size, 2, none⟩ = some (.string nm) := by
            rw [hoth3 _ _ (by omega) (by omega)]; exact hsc2
          obtain ⟨w4, hrun4, hall4, _⟩ := app2_said hall3 (by rw [HNS.out]; omega) nm
          have hs2' : wr.heap.size + 1 < w2.heap.size := by omega
          clear hs2 hp HSC hoth2 hoth3 hfl2 hflag2 hmod2 hnam2 hroll2 hf2 hb2 hall2 hall3 hall
          go_wp2_with (at_builtin; first | refine wpList_append_run _ rfl (.tmp 80) (.tmp 82) 65 rfl (.slice (some ⟨w.heap.size + 1, 0, none⟩) ms.length len) (.slice (some ⟨w2.heap.size, 0, none⟩) 1 1) rfl rfl (hrun3 _) ?_ | refine wpList_append_run _ rfl (.tmp 84) (.tmp 87) 54 rfl (.slice (some ⟨w.heap.size + 1 + 1, 0, none⟩) ns.length len) (.slice (some ⟨w3.heap.size, 0, none⟩) 1 1) rfl rfl (hrun4 _) ?_)
          go_roundw
          case rel => exact ⟨c + 1, ms ++ [wr.heap.size + 1], ns ++ [nm], by omega, by simp; omega, by go_num, by simp, by simp, hall4⟩
          case measure => simp [intOf]; omega
        · have hdm : (ms.length : Int) = 0 := by
            by_cases hz : 0 < ms.length
            · exact absurd ⟨rfl, hz⟩ hrm
            · omega
          clear hrm
          have hall1 := hall.alloc #[.bool true, .int .u16 pk, .string nm] 68
          have hsz1 : (wr.alloc (.cells #[.bool true, .int .u16 pk, .string nm] 68)).heap.size = wr.heap.size + 1 := World.size_alloc _ _
          have hp := push_said hall1 nm false
          rw [hsz1] at hp
          have hwz := hall.sz
          have hmlt : ∀ x ∈ ms, x < wr.heap.size := hall.roll.lt
          have hsc : ((wr.alloc (.cells #[.bool true, .int .u16 pk, .string nm] 68)).alloc (.cells #[.string nm, .pointer none, .pointer none, .bool false] 73)).cell? ⟨wr.heap.size, 2, none⟩ = some (.string nm) := by
            rw [World.cell?_alloc_past _ _ _ (by rw [hsz1]; omega), World.cell?_alloc_mark]; rfl
          have HSC : Hid (((wr.alloc (.cells #[.bool true, .int .u16 pk, .string nm] 68)).alloc (.cells #[.string nm, .pointer none, .pointer none, .bool false] 73)).cell? ⟨wr.heap.size, 2, none⟩ = some (.string nm)) := hsc
          have HMLT : Hid (∀ x ∈ ms, x < wr.heap.size) := hmlt
          clear hsz1 hall1 hsc hmlt
          go_wp2_with fail
          refine hp.mono ?_
          rintro e w2 ⟨rfl, hs2, hb2, hf2, hroll2, hflag2, hfl2, hmod2, hnam2, hoth2, _⟩
          have hall2 : AllI w.heap.size len w (ms ++ [wr.heap.size + 1]) (ns ++ [nm]) ms ns w2 := ⟨by omega, hb2, hf2, hroll2, fun x hx => by
            rcases List.mem_append.1 hx with hx | hx
            · exact hflag2 x hx
            · simp at hx; subst hx; exact hfl2, hmod2, hnam2⟩
          have hsc2 : w2.cell? ⟨wr.heap.size, 2, none⟩ = some (.string nm) := by
            rw [hoth2 _ _ (by omega) (by omega) (fun hx => Nat.lt_irrefl _ (HMLT.out _ hx))]; exact HSC.out
          obtain ⟨w3, hrun3, hall3, hoth3⟩ := app1_said hall2 (by omega) (wr.heap.size + 1)
          have hsc3 : w3.cell? ⟨wr.heap.size, 2, none⟩ = some (.string nm) := by
            rw [hoth3 _ _ (by omega) (by omega)]; exact hsc2
          obtain ⟨w4, hrun4, hall4, _⟩ := app2_said hall3 (by rw [HNS.out]; omega) nm
          have hs2' : wr.heap.size + 1 < w2.heap.size := by omega
          clear hs2 hp HSC hoth2 hoth3 hfl2 hflag2 hmod2 hnam2 hroll2 hf2 hb2 hall2 hall3 hall
          go_wp2_with (at_builtin; first | refine wpList_append_run _ rfl (.tmp 80) (.tmp 82) 65 rfl (.slice (some ⟨w.heap.size + 1, 0, none⟩) ms.length len) (.slice (some ⟨w2.heap.size, 0, none⟩) 1 1) rfl rfl (hrun3 _) ?_ | refine wpList_append_run _ rfl (.tmp 84) (.tmp 87) 54 rfl (.slice (some ⟨w.heap.size + 1 + 1, 0, none⟩) ns.length len) (.slice (some ⟨w3.heap.size, 0, none⟩) 1 1) rfl rfl (hrun4 _) ?_)
          go_roundw
          case rel => exact ⟨c + 1, ms ++ [wr.heap.size + 1], ns ++ [nm], by omega, by simp; omega, by go_num, by simp, by simp, hall4⟩
          case measure => simp [intOf]; omega
    · obtain ⟨n, hn⟩ := hall.roll.num
      obtain ⟨x, hx⟩ : ∃ x, wrap64 (n + extra) = x := ⟨_, rfl⟩
      have hfz := hall.fz w.heap.size 2 (Nat.le_refl _)
      have hfp := fin_push hall x name left
      have hwz : w.heap.size < wr.heap.size := by have := hall.sz; omega
      have hneq := neq_member
      have hge : ¬ (c : Int) < (len : Int) := by omega
      have hml : ms.length ≤ 65536 := by omega
      clear hall
      go_wp2_with fail
      refine hfp.mono ?_
      rintro e w2 ⟨rfl, fin⟩
      have f1 := fin.num
      have f2 := fin.last
      have f3 := fin.mname
      have f4 := fin.mnext
      have f5 := fin.mleft
      have f6 := fin.mprev
      have f7 := fin.first
      clear hfp hn hfz hx
      by_cases h0 : ms.length = 0
      · obtain rfl : ms = [] := List.eq_nil_of_length_eq_zero h0
        simp [optp, at0] at f6 f7
        go_wp2_with fail
        go_loop [19, 20, 21, 22] (fun i x p n => i = .int .i64 0) (fun i x p n => 0)
        case atStart => rfl
        case round =>
          subst hrel
          go_wp2
          go_ret
          exact ⟨rfl, fin.below⟩
      · obtain ⟨t, ht⟩ : ∃ t, t + 1 = ms.length := ⟨ms.length - 1, by omega⟩
        obtain ⟨fb, hfb⟩ : ∃ fb, ms[0]? = some fb := ⟨ms[0], List.getElem?_eq_getElem (by omega)⟩
        obtain ⟨lb, hlb⟩ : ∃ lb, ms[ms.length - 1]? = some lb := ⟨ms[ms.length - 1], List.getElem?_eq_getElem (by omega)⟩
        rw [hlb] at f6
        rw [List.getElem?_append_left (by omega), hfb] at f7
        simp only [optp, at0, Option.map_some] at f6 f7
        have g0 := fin.model 0 fb hfb
        have g1 := fin.model t lb (by rw [show t = ms.length - 1 by omega]; exact hlb)
        have hk0 : ((ms.length : Int) == 0) = false := by simpa using h0
        have hkt : (ms.length : Int) - 1 = (t : Int) := by omega
        have hkp : (0 : Int) < (ms.length : Int) := by omega
        have hkp' : 0 < ms.length := by omega
        have htl : (t : Int) < (ms.length : Int) := by omega
        clear hfb hlb ht h0
        go_wp2_with fail
        go_quiet (fail)
        go_wp2_with fail
        clear g0 g1 f1 f2 f3 f4 f5 f6 f7 hkt htl
        go_loopw [19, 20, 21, 22] (fun i x p n wq => ∃ j nq : Nat, j ≤ ms.length ∧ i = .int .i64 j ∧ wq = w2.drewN nq) (fun i _ _ _ _ => ms.length - (intOf i).toNat)
        case atStart => exact ⟨0, _, Nat.zero_le _, rfl, rfl⟩
        case round =>
          obtain ⟨j, nq, hj, rfl, rfl⟩ := hrel
          by_cases hjl : j < ms.length
          · obtain ⟨bj, hbj⟩ : ∃ bj, ms[j]? = some bj := ⟨ms[j], List.getElem?_eq_getElem hjl⟩
            have s1 := fin.model j bj hbj
            have s2 := fin.names j bj hbj
            have s3 := fin.name_ j bj hbj
            have s4 := fin.prev j bj hbj
            have s5 := fin.next j bj hbj
            have s6 := fin.flag j bj hbj
            generalize ns.getD j default = sj at s2 s3
            have hji : (j : Int) < (ms.length : Int) := by omega
            have hjn : (j : Int) < (ns.length : Int) := by have := fin.len; omega
            have hjl2 : j < ns.length := by have := fin.len; omega
            by_cases hj0 : j = 0
            · subst hj0
              rw [show prevOf ms 0 = none from rfl] at s4
              simp only [optp, Option.map_none] at s4
              by_cases hjn2 : 1 < ms.length
              · obtain ⟨qb, hqb⟩ : ∃ qb, ms[1]? = some qb := ⟨ms[1], List.getElem?_eq_getElem hjn2⟩
                rw [List.getElem?_append_left (by omega), hqb] at s5
                simp only [optp, at0, Option.map_some] at s5
                have s8 := fin.model (1) qb hqb
                have hn2 : (1 : Int) < (ms.length : Int) := by omega
                clear hbj hqb
                go_wp2
                go_quiet (fail)
                go_wp2
                go_roundw
                case rel => exact ⟨0 + 1, _, by omega, by go_num, rfl⟩
                case measure => simp [intOf]; omega
              · rw [List.getElem?_append_right (by omega), show 0 + 1 - ms.length = 0 by omega] at s5
                simp only [optp, at0, Option.map_some, List.getElem?_cons_zero] at s5
                have hn2 : ¬ (1 : Int) < (ms.length : Int) := by omega
                clear hbj
                go_wp2
                go_quiet (fail)
                go_wp2
                go_roundw
                case rel => exact ⟨0 + 1, _, by omega, by go_num, rfl⟩
                case measure => simp [intOf]; omega
            · obtain ⟨i', hi'⟩ : ∃ i', i' + 1 = j := ⟨j - 1, by omega⟩
              obtain ⟨pb, hpb⟩ : ∃ pb, ms[i']? = some pb := ⟨ms[i'], List.getElem?_eq_getElem (by omega)⟩
              have hpv : prevOf ms j = some pb := by unfold prevOf; rw [if_neg hj0, show j - 1 = i' by omega]; exact hpb
              rw [hpv] at s4
              simp only [optp, at0, Option.map_some] at s4
              have s7 := fin.model i' pb hpb
              have hj1 : (j : Int) - 1 = (i' : Int) := by omega
              have hjp : (0 : Int) < (j : Int) := by omega
              have hil : (i' : Int) < (ms.length : Int) := by omega
              clear hi' hpb hpv hj0
              by_cases hjn2 : j + 1 < ms.length
              · obtain ⟨qb, hqb⟩ : ∃ qb, ms[j + 1]? = some qb := ⟨ms[j + 1], List.getElem?_eq_getElem hjn2⟩
                rw [List.getElem?_append_left (by omega), hqb] at s5
                simp only [optp, at0, Option.map_some] at s5
                have s8 := fin.model (j + 1) qb hqb
                have hn2 : (j : Int) + 1 < (ms.length : Int) := by omega
                clear hbj hqb
                go_wp2
                go_quiet (fail)
                go_wp2
                go_roundw
                case rel => exact ⟨j + 1, _, by omega, by go_num, rfl⟩
                case measure => simp [intOf]; omega
              · rw [List.getElem?_append_right (by omega), show j + 1 - ms.length = 0 by omega] at s5
                simp only [optp, at0, Option.map_some, List.getElem?_cons_zero] at s5
                have hn2 : ¬ (j : Int) + 1 < (ms.length : Int) := by omega
                clear hbj
                go_wp2
                go_quiet (fail)
                go_wp2
                go_roundw
                case rel => exact ⟨j + 1, _, by omega, by go_num, rfl⟩
                case measure => simp [intOf]; omega
          · have hjl' : ¬ (j : Int) < (ms.length : Int) := by omega
            go_wp2
            go_ret
            exact ⟨rfl, below_drewN fin.below _⟩

set_option maxHeartbeats 400000 in
set_option maxRecDepth 100000 in
theorem walk_long (ao : Option Addr) (len cap : Nat) (extra : Int) (name : ByteArray) (left : Bool) (w : World) (h : 65536 < len) (hm : len ≤ 9223372036854775807) :
    Calls Yba.prog 4 #[.slice ao len cap, .int .i64 extra, .string name, .bool left] w fun e w' => e = .returned (.bool true) ∧ Below w.heap.size w w' := by
  have h' : (65536 : Int) < (len : Int) := by omega
  go_enter Yba.func4, Yba.ntmps4
  go_wp2
  go_ret
  exact ⟨rfl, Below.refl _ _⟩
end Go.Proofs.Ybulkejkw.lawS6782BWhole
