/-
  THE WALKS of 'zzBlank', 'zzIndicator', 'zzPlainBefore', 'zzMarks'.
-/
import Derived.Test.Qxb6605509aClone
import Derived.Test.Qxb6605509aMarksPlain
namespace Go.Proofs.Qxb6605509a
open Go.RowKit

set_option maxHeartbeats 400000 in
theorem zz_blank (c : Int) (w : World) :
    Calls Try.prog 13 #[.int .u8 c] w fun e w' => e = .returned (.bool (blank c)) ∧ w' = w := by
  go_enter Try.func13, Try.ntmps13
  go_wp2
  all_goals (go_ret; refine ⟨ret_bool ?_, rfl⟩; simp_all [blank])

set_option maxHeartbeats 400000 in
theorem zz_indic (c : Int) (w : World) :
    Calls Try.prog 17 #[.int .u8 c] w fun e w' => e = .returned (.bool (indic c)) ∧ w' = w := by
  go_enter Try.func17, Try.ntmps17
  go_wp2
  all_goals (go_ret; refine ⟨ret_bool ?_, rfl⟩; simp_all [indic])

set_option maxHeartbeats 400000 in
theorem zz_plain (c : Int) (w : World) :
    Calls Try.prog 14 #[.int .u8 c] w fun e w' => e = .returned (.bool (plainB c)) ∧ w' = w := by
  obtain ⟨b, hb⟩ : ∃ b, blank c = b := ⟨_, rfl⟩
  have HB : Hid (blank c = b) := hb
  obtain ⟨q, hq⟩ : ∃ q, indic c = q := ⟨_, rfl⟩
  have HQ : Hid (indic c = q) := hq
  clear hb hq
  cases b with
  | true =>
    go_enter Try.func14, Try.ntmps14
    go_wp2_with (go_at_call 13; refine (zz_blank c _).mono ?_; rintro e w' ⟨rfl, rfl⟩; rw [HB.out])
    go_ret
    exact ⟨ret_bool (by simp [plainB, HB.out]), rfl⟩
  | false =>
    go_enter Try.func14, Try.ntmps14
    go_wp2_with (first
      | (go_at_call 13; refine (zz_blank c _).mono ?_; rintro e w' ⟨rfl, rfl⟩; rw [HB.out])
      | (go_at_call 17; refine (zz_indic c _).mono ?_; rintro e w' ⟨rfl, rfl⟩; rw [HQ.out]))
    go_ret
    exact ⟨ret_bool (by simp [plainB, HB.out, HQ.out]), rfl⟩

theorem info4 : (Try.prog.info? 4).map (fun i => (i.zero, i.size, i.bytes)) = some (some (.bool false), 1, 1) := by kernel_rfl

theorem cell_old {w w1 : World} {a : Addr} {v : Value} (hb : Below w.heap.size w w1) (h : w.cell? a = some v) : w1.cell? a = some v := cell_later hb h

theorem fin_store {zs : List Int} {w W : World} {n k : Nat} {p : Option Int} {c : Int} {v pd : Bool} (hp : Hid (prevOf zs k = p)) (hc : Hid (zs.getD k 0 = c)) (hst : Hid (W.rowIs w.heap.size 4 n (fun j => .bool (st zs k j)))) (hb : Below w.heap.size w W)
    (hv : v = imm p c) (hpd : pd = pend p c) :
    Value.bool pd = .bool (pendAt zs (k + 1)) ∧ Value.int .u8 c = .int .u8 (prevVal zs (k + 1)) ∧
      Hid ((W.setCell ⟨w.heap.size, k, none⟩ (.bool v)).rowIs w.heap.size 4 n (fun j => .bool (mrk zs (k + 1) j))) ∧ Below w.heap.size w (W.setCell ⟨w.heap.size, k, none⟩ (.bool v)) := by
  refine ⟨?_, ?_, ?_, hb.setCell (Nat.le_refl _) _⟩
  · show _ = Value.bool (pend (prevOf zs k) (zs.getD k 0))
    rw [hp.out, hc.out, hpd]
  · show _ = Value.int .u8 (zs.getD k 0)
    rw [hc.out]
  · refine (hst.out.set k (.bool v)).congr fun j _ => ?_
    rw [← step_store zs k v (by rw [hp.out, hc.out, hv]) j]
    by_cases e : j = k
    · rw [if_pos e, if_pos e]
    · rw [if_neg e, if_neg e]

theorem fin_none {zs : List Int} {w W : World} {n k : Nat} {p : Option Int} {c : Int} {pd : Bool} (hp : Hid (prevOf zs k = p)) (hc : Hid (zs.getD k 0 = c)) (hst : Hid (W.rowIs w.heap.size 4 n (fun j => .bool (st zs k j)))) (hb : Below w.heap.size w W)
    (hv : false = imm p c) (hpd : pd = pend p c) :
    Value.bool pd = .bool (pendAt zs (k + 1)) ∧ Value.int .u8 c = .int .u8 (prevVal zs (k + 1)) ∧
      Hid (W.rowIs w.heap.size 4 n (fun j => .bool (mrk zs (k + 1) j))) ∧ Below w.heap.size w W := by
  refine ⟨?_, ?_, ?_, hb⟩
  · show _ = Value.bool (pend (prevOf zs k) (zs.getD k 0))
    rw [hp.out, hc.out, hpd]
  · show _ = Value.int .u8 (zs.getD k 0)
    rw [hc.out]
  · exact hst.out.congr fun j _ => by rw [step_none zs k (by rw [hp.out, hc.out, ← hv]) j]

set_option maxHeartbeats 1600000 in
theorem marks_some (g cap : Nat) (zs : List Int) (w : World) (hn : zs.length ≤ 1048576) (hr : ∀ j, 0 ≤ zs.getD j 0 ∧ zs.getD j 0 < 256)
    (hc : ∀ j, j < zs.length → w.cell? ⟨g, j, none⟩ = some (.int .u8 (zs.getD j 0))) :
    Calls Try.prog 8 #[.slice (some ⟨g, 0, none⟩) zs.length cap] w fun e w' => e = .returned (.slice (some ⟨w.heap.size, 0, none⟩) zs.length zs.length) ∧
      w'.rowIs w.heap.size 4 zs.length (fun j => .bool (mark zs j)) ∧ Below w.heap.size w w' := by
  have hmk := run_make_row' (P := Try.prog) 25 4 (.bool false) 1 Try.underlying25 info4 rfl .i64 .i64 zs.length (by omega) (by omega)
  obtain ⟨n, hl⟩ : ∃ n, zs.length = n := ⟨_, rfl⟩
  have HL : Hid (zs.length = n) := hl
  rw [hl] at hn hc hmk ⊢
  clear hl
  have HC := hid hc
  have HR := hid hr
  clear hc hr
  go_enter Try.func8, Try.ntmps8
  go_wp2
  go_loopw [4, 5, 6] (fun pd pv i wr => ∃ k : Nat, k ≤ n ∧ i = .int .i64 k ∧ pd = .bool (pendAt zs k) ∧ pv = .int .u8 (prevVal zs k) ∧ Hid (wr.rowIs w.heap.size 4 n (fun j => .bool (mrk zs k j))) ∧ Below w.heap.size w wr) (fun _ _ i _ => n - (intOf i).toNat)
  case atStart => exact ⟨0, Nat.zero_le _, rfl, rfl, rfl, (World.rowIs_made w (.bool false) n 4).congr (fun j _ => by rw [mrk, if_neg (by omega), if_neg (by omega)]), (Below.refl _ _).alloc (Nat.le_refl _) _⟩
  case round =>
    obtain ⟨k, hk, rfl, rfl, rfl, HRW, hnx⟩ := hrel
    by_cases hlt : k < n
    · cases k with
      | zero =>
        obtain ⟨c, hcc⟩ : ∃ c, zs.getD 0 0 = c := ⟨_, rfl⟩
        have hck : wr.cell? ⟨g, 0, none⟩ = some (.int .u8 (zs.getD 0 0)) := cell_old hnx (HC.out 0 hlt)
        have hm0 := HRW.out.cell hlt
        have hf0 := HRW.out.frozen 0
        have HST : Hid (wr.rowIs w.heap.size 4 n (fun j => .bool (st zs 0 j))) := HRW.out.congr fun j _ => by rw [settle_zero]
        have HCC := hid hcc
        rw [hcc] at hck
        rw [show mrk zs 0 0 = false from rfl] at hm0
        rw [show pendAt zs 0 = false from rfl, show prevVal zs 0 = 0 from rfl]
        clear hcc HRW
        have HP : Hid (prevOf zs 0 = none) := rfl
        go_wp2
        all_goals
          go_roundw
          case rel =>
            refine ⟨1, by omega, rfl, ?_⟩
            first
              | refine fin_store HP HCC HST hnx ?_ ?_
              | refine fin_none HP HCC HST hnx ?_ ?_
            all_goals (clear hck hm0 hf0 HST HC HR HCC HP hnx HL; simp_all [imm, pend, opens, beforeB, dotB])
          case measure => simp [intOf]; omega
      | succ q =>
        obtain ⟨c, hcc⟩ : ∃ c, zs.getD (q + 1) 0 = c := ⟨_, rfl⟩
        obtain ⟨pv, hpv⟩ : ∃ c, zs.getD q 0 = c := ⟨_, rfl⟩
        obtain ⟨pl, hpl⟩ : ∃ x, plainB pv = x := ⟨_, rfl⟩
        obtain ⟨bl, hbl⟩ : ∃ x, blank c = x := ⟨_, rfl⟩
        obtain ⟨pd, hpd⟩ : ∃ x, pendAt zs (q + 1) = x := ⟨_, rfl⟩
        have hck : wr.cell? ⟨g, q + 1, none⟩ = some (.int .u8 (zs.getD (q + 1) 0)) := cell_old hnx (HC.out (q + 1) hlt)
        have hm0 := HRW.out.cell (i := q) (by omega)
        have hf0 := HRW.out.frozen q
        have hm1 := HRW.out.cell hlt
        have hf1 := HRW.out.frozen (q + 1)
        have HP : Hid (prevOf zs (q + 1) = some pv) := by show _ = _; rw [prevOf_succ zs q (by rw [HL.out]; omega), hpv]
        have hq1 : q + 1 < zs.length := by rw [HL.out]; exact hlt
        have HS1 : Hid (pd = true → bl = true → (wr.setCell ⟨w.heap.size, q, none⟩ (.bool true)).rowIs w.heap.size 4 n (fun j => .bool (st zs (q + 1) j))) := fun h1 h2 => (HRW.out.set q (.bool true)).congr fun j _ => by
          rw [← settle_yes zs q hq1 (hpd.trans h1) (by rw [hcc, hbl, h2]) j]
          by_cases e : j = q
          · rw [if_pos e, if_pos e]
          · rw [if_neg e, if_neg e]
        have HS0 : Hid ((pd && bl) = false → wr.rowIs w.heap.size 4 n (fun j => .bool (st zs (q + 1) j))) := fun h => HRW.out.congr fun j _ => by rw [settle_no zs q hq1 (by rw [hpd, hcc, hbl]; exact h) j]
        have HCC := hid hcc
        have HPL := hid hpl
        have HBL := hid hbl
        rw [hcc] at hck
        rw [show mrk zs (q + 1) (q + 1) = false from by rw [mrk, if_neg (by omega), if_neg (by omega)]] at hm1
        rw [hpd, show prevVal zs (q + 1) = pv from hpv]
        obtain ⟨x, hx⟩ : ∃ x, mrk zs (q + 1) q = x := ⟨_, rfl⟩
        rw [hx] at hm0
        have hq0 : ((q : Int) + 1 == 0) = false := by rw [beq_eq_false_iff_ne]; omega
        clear hcc HRW hpv hpl hbl hpd hx hq1
        cases pd with
        | false =>
          have HST := hid (HS0.out rfl)
          clear HS0 HS1
          go_wp2_with (first
            | (go_at_call 14; refine (zz_plain pv _).mono ?_; rintro e w' ⟨rfl, rfl⟩; rw [HPL.out]))
          all_goals
            go_roundw
            case rel =>
              refine ⟨q + 2, by omega, by go_num, ?_⟩
              first
                | refine fin_store HP HCC HST hnx ?_ ?_
                | refine fin_none HP HCC HST hnx ?_ ?_
              all_goals
                have hpl := HPL.out
                clear hck hm0 hf0 hm1 hf1 HST HC HR HCC HP hnx HL HPL HBL
                simp_all [imm, pend, opens, beforeB, dotB]
            case measure => simp [intOf]; omega
        | true =>
          cases bl with
          | true =>
            have HST := hid (HS1.out rfl rfl)
            have hm2 : (wr.setCell ⟨w.heap.size, q, none⟩ (.bool true)).cell? ⟨w.heap.size, q + 1, none⟩ = some (.bool false) := by
              rw [World.cell?_setCell_other _ _ _ _ (by simp)]; exact hm1
            have hnx2 : Below w.heap.size w (wr.setCell ⟨w.heap.size, q, none⟩ (.bool true)) := hnx.setCell (Nat.le_refl _) _
            clear HS0 HS1
            go_wp2_with (first
              | (go_at_call 13; refine (zz_blank c _).mono ?_; rintro e w' ⟨rfl, rfl⟩; rw [HBL.out])
              | (go_at_call 14; refine (zz_plain pv _).mono ?_; rintro e w' ⟨rfl, rfl⟩; rw [HPL.out]))
            all_goals
              go_roundw
              case rel =>
                refine ⟨q + 2, by omega, by go_num, ?_⟩
                first
                  | refine fin_store HP HCC HST hnx2 ?_ ?_
                  | refine fin_none HP HCC HST hnx2 ?_ ?_
                all_goals
                  have hpl := HPL.out
                  clear hck hm0 hf0 hm1 hf1 HST HC HR HCC HP hnx HL HPL HBL hm2 hnx2
                  simp_all [imm, pend, opens, beforeB, dotB]
              case measure => simp [intOf]; omega
          | false =>
            have HST := hid (HS0.out rfl)
            clear HS0 HS1
            go_wp2_with (first
              | (go_at_call 13; refine (zz_blank c _).mono ?_; rintro e w' ⟨rfl, rfl⟩; rw [HBL.out])
              | (go_at_call 14; refine (zz_plain pv _).mono ?_; rintro e w' ⟨rfl, rfl⟩; rw [HPL.out]))
            all_goals
              go_roundw
              case rel =>
                refine ⟨q + 2, by omega, by go_num, ?_⟩
                first
                  | refine fin_store HP HCC HST hnx ?_ ?_
                  | refine fin_none HP HCC HST hnx ?_ ?_
                all_goals
                  have hpl := HPL.out
                  clear hck hm0 hf0 hm1 hf1 HST HC HR HCC HP hnx HL HPL HBL
                  simp_all [imm, pend, opens, beforeB, dotB]
              case measure => simp [intOf]; omega
    · obtain rfl : k = n := by omega
      cases k with
      | zero =>
        rw [show pendAt zs 0 = false from rfl]
        go_wp2
        go_ret
        exact ⟨rfl, HRW.out.congr fun j hj => absurd hj (by omega), hnx⟩
      | succ q =>
        have hm0 := HRW.out.cell (i := q) (by omega)
        have hf0 := HRW.out.frozen q
        obtain ⟨pd, hpd⟩ : ∃ x, pendAt zs (q + 1) = x := ⟨_, rfl⟩
        have HE1 : Hid (pd = true → (wr.setCell ⟨w.heap.size, q, none⟩ (.bool true)).rowIs w.heap.size 4 (q + 1) (fun j => .bool (mark zs j))) := fun h1 => (HRW.out.set q (.bool true)).congr fun j hj => by
          rw [← last_yes zs q HL.out.symm (hpd.trans h1) j (by rw [HL.out]; exact hj)]
          by_cases e : j = q
          · rw [if_pos e, if_pos e]
          · rw [if_neg e, if_neg e]
        have HE0 : Hid (pd = false → wr.rowIs w.heap.size 4 (q + 1) (fun j => .bool (mark zs j))) := fun h => HRW.out.congr fun j hj => by rw [last_no zs q HL.out.symm (hpd.trans h) j (by rw [HL.out]; exact hj)]
        rw [hpd]
        clear hpd HRW
        cases pd with
        | true =>
          have HE := hid (HE1.out rfl)
          clear HE0 HE1
          go_wp2
          go_ret
          exact ⟨rfl, HE.out, hnx.setCell (Nat.le_refl _) _⟩
        | false =>
          have HE := hid (HE0.out rfl)
          clear HE0 HE1
          go_wp2
          go_ret
          exact ⟨rfl, HE.out, hnx⟩

end Go.Proofs.Qxb6605509a
