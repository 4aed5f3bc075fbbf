/-
  THE WALK of the law 'FnDeclarationEndDependsOnItsOwnBytesAlone'.
-/
import Derived.Test.Qxb6605365aCalls
import Derived.Test.Qxb6605365aPrefix
namespace Go.Proofs.Qxb6605365a
open Go.RowKit

set_option maxHeartbeats 400000 in
theorem own_long (a0 : Option Addr) (len0 cap0 : Nat) (a1 : Option Addr) (len1 cap1 : Nat) (w : World) (m0 : len0 ≤ maxLen) (m1 : len1 ≤ maxLen) (h : 65536 < len0 ∨ 65536 < len1) :
    Calls Try.prog 4 #[.slice a0 len0 cap0, .slice a1 len1 cap1] w fun e w' => e = .returned (.bool true) ∧ Below w.heap.size w w' := by
  unfold maxLen at m0 m1
  by_cases h0 : 65536 < len0
  · clear h
    go_enter Try.func4, Try.ntmps4
    go_wp2
    all_goals (go_ret; exact ⟨rfl, Below.refl _ _⟩)
  · have h1 : 65536 < len1 := by omega
    clear h
    go_enter Try.func4, Try.ntmps4
    go_wp2
    all_goals (go_ret; exact ⟨rfl, Below.refl _ _⟩)

theorem Cb.cut {w : World} {p : Option Addr} {n cap : Nat} {B : List UInt8} (h : Cb w p n cap B) (k : Nat) (hk : k ≤ n) : Cb w p k cap (B.take k) := by
  obtain ⟨h1, h2, h3⟩ := h
  refine ⟨by rw [List.length_take]; omega, by omega, ?_⟩
  rcases h3 with h3 | ⟨g', e, h4⟩
  · exact .inl (by omega)
  · refine .inr ⟨g', e, fun j hj => ?_⟩
    rw [List.length_take] at hj
    rw [h4 j (by omega)]
    unfold bz
    rw [List.getD_eq_getElem?_getD, List.getD_eq_getElem?_getD, List.getElem?_take_of_lt (by omega)]

set_option maxHeartbeats 1600000 in
theorem own_main (a0 : Option Addr) (len0 cap0 : Nat) (z0 : List Int) (a1 : Option Addr) (len1 cap1 : Nat) (z1 : List Int) (m : Int) (w : World) (w0 : IsRow .u8 w a0 len0 cap0 z0) (w1 : IsRow .u8 w a1 len1 cap1 z1)
    (h0 : len0 ≤ 65536) (h1 : len1 ≤ 65536) (hm : w.cell? ⟨0, 0, none⟩ = some (.int .i64 m)) :
    Calls Try.prog 4 #[.slice a0 len0 cap0, .slice a1 len1 cap1] w fun e w' => e = .returned (.bool true) ∧ Below w.heap.size w w' := by
  have H0 := hid w0
  have H1 := hid w1
  have HM := hid hm
  clear w0 w1 hm
  go_enter Try.func4, Try.ntmps4
  go_wp2_with (go_at_call 10; go_in)
  refine (clone_any a0 len0 cap0 z0 _ H0.out (by omega)).mono ?_
  rintro e wa ⟨pa, rfl, hcb, hb0⟩
  obtain ⟨B, hB⟩ : ∃ B, bytesIn z0 len0 = B := ⟨_, rfl⟩
  rw [hB] at hcb
  have HA := hid hcb
  have HB0 := hid hb0
  have H1' := hid (row_later H1.out hb0)
  clear hcb hb0 H0 H1 hB
  go_wp2_with fail
  refine (clone_any a1 len1 cap1 z1 _ H1'.out (by omega)).mono ?_
  rintro e wb ⟨pc, rfl, hcb, hb1⟩
  obtain ⟨C, hC⟩ : ∃ C, bytesIn z1 len1 = C := ⟨_, rfl⟩
  rw [hC] at hcb
  have HCC := hid hcb
  have HA1 := hid (HA.out.later hb1)
  have HBW1 : Hid (Below w.heap.size w wb) := HB0.out.trans (hb1.mono HB0.out.size)
  have HM1 := hid (cell_later HBW1.out HM.out)
  clear hcb hb1 HA HB0 H1' hC HM
  go_wp2_with fail
  refine (zz_decl pa len0 len0 B m _ HA1.out (by omega) HM1.out).mono ?_
  rintro e w2 ⟨rfl, hb2⟩
  have HA2 := hid (HA1.out.later hb2)
  have HC2 := hid (HCC.out.later hb2)
  have HBW2 : Hid (Below w.heap.size w w2) := HBW1.out.trans (hb2.mono HBW1.out.size)
  have HM2 := hid (cell_later hb2 HM1.out)
  clear HA1 hb2 HBW1 HM1 HCC
  rcases Cl_is B 3 0 with hR | ⟨r, hR, hr1, hr2, hr3⟩
  · have HR := hid hR
    rw [hR]
    clear hR
    go_wp2_with (go_at_call 9; refine (zz_model pa len0 len0 B _ HA2.out (by omega)).mono ?_; rintro e w' ⟨rfl, k, rfl⟩; rw [HR.out])
    have HA3 := hid ((HA2.out.later (bel_drewN (Below.refl _ _) k)).cut (len0 / 2) (by omega))
    have HN := hid (none_take B (len0 / 2) HR.out)
    refine (zz_decl pa (len0 / 2) len0 (B.take (len0 / 2)) m _ HA3.out (by omega) (by exact HM2.out)).mono ?_
    rintro e w3 ⟨rfl, hb3⟩
    rw [HN.out]
    have HB3 : Hid (Below w.heap.size w w3) := (bel_drewN HBW2.out k).trans (hb3.mono HBW2.out.size)
    clear HA3 HA2 HC2 hb3 HN HR HM2 HBW2
    go_wp2
    go_ret
    exact ⟨rfl, HB3.out⟩
  · have HR := hid hR
    have hl := HA2.out.1
    obtain ⟨g, hp, hat⟩ := HA2.out.2.2.resolve_left (by omega)
    have hcell : w2.cell? ⟨g, r - 1, none⟩ = some (.int .u8 62) := by
      rw [hat (r - 1) (by omega)]
      unfold bz
      rw [List.getD_eq_getElem?_getD, hr3]; rfl
    have hrn : r ≤ len0 := by omega
    have HAT := hid hat
    have hmk := run_make_row' (P := Try.prog) 22 5 (.int .u8 0) 1 Try.underlying22 info5 rfl .i64 .i64 (r + len1) (by omega) (by omega)
    rw [show ((r + len1 : Nat) : Int) = (r : Int) + (len1 : Int) from by omega] at hmk
    have HOWN := hid (own_any B 3 0 r hR)
    have HSH := hid (short_take B r hR)
    have HMO := hid (more_take B C r hR hr2)
    have HBL := hid hl
    have HCL := hid HC2.out.1
    rw [hp] at HA2 ⊢
    rw [hR]
    clear hR hr2 hr3 hl hp hat
    obtain ⟨D, hD⟩ : ∃ D, B.take r ++ C = D := ⟨_, rfl⟩
    have HDl : Hid (D.length = r + len1) := by show _ = _; rw [← hD, List.length_append, List.length_take, HBL.out, HCL.out, Nat.min_eq_left hrn]
    have HDB : Hid (∀ j, j < r → bz D j = bz B j) := fun j hj => by
      rw [← hD]; unfold bz
      rw [List.getD_eq_getElem?_getD, List.getD_eq_getElem?_getD, List.getElem?_append_left (by rw [List.length_take, HBL.out]; omega), List.getElem?_take_of_lt hj]
    have HDC : Hid (∀ j, bz D (r + j) = bz C j) := fun j => by
      rw [← hD]; unfold bz
      have e : (B.take r).length = r := by rw [List.length_take, HBL.out]; omega
      rw [List.getD_eq_getElem?_getD, List.getD_eq_getElem?_getD, List.getElem?_append_right (by rw [e]; omega), e, Nat.add_sub_cancel_left]
    rw [hD] at HMO
    clear hD
    rcases HC2.out.2.2 with hz | ⟨gc, hpc, hatc⟩
    all_goals
      first
        | (have HZC := hid hz
           clear hz HC2)
        | (have HATC := hid hatc
           rw [hpc]
           clear hpc hatc HC2)
      go_wp2_with (go_at_call 9; refine (zz_model _ len0 len0 B _ HA2.out (by omega)).mono ?_; rintro e w' ⟨rfl, k, rfl⟩; rw [HR.out])
      clear hmk hcell
      go_loopw [7] (fun x wr => ∃ i : Nat, i ≤ r ∧ x = .int .i64 i ∧ Hid (wr.rowIs w2.heap.size 5 (r + len1) (fun j => .int .u8 (if j < i then bz D j else 0))) ∧ Hid (Below w2.heap.size w2 wr)) (fun x _ => r - (intOf x).toNat)
      case atStart => exact ⟨0, by omega, rfl, (World.rowIs_made (w2.drewN k) (.int .u8 0) (r + len1) 5).congr (fun j _ => by rw [if_neg (by omega)]), (bel_drewN (Below.refl _ _) k).alloc (Nat.le_refl _) _⟩
      case round =>
        obtain ⟨i, hi, rfl, HROW, HNX⟩ := hrel
        by_cases hlt : i < r
        · have hcb : wr.cell? ⟨g, i, none⟩ = some (.int .u8 (bz B i)) := cell_later HNX.out (HAT.out i (by rw [HBL.out]; omega))
          have hm0 := HROW.out.cell (i := i) (by omega)
          have hf0 := HROW.out.frozen i
          rw [if_neg (by omega)] at hm0
          rw [← HDB.out i hlt] at hcb
          obtain ⟨v, hv⟩ : ∃ v, bz D i = v := ⟨_, rfl⟩
          rw [hv] at hcb
          have HV := hid hv
          clear hv
          go_wp2
          go_roundw
          case rel =>
            refine ⟨i + 1, by omega, by go_num, (HROW.out.set i _).congr fun j _ => ?_, HNX.out.setCell (Nat.le_refl _) _⟩
            by_cases e : j = i
            · rw [if_pos e, if_pos (by omega), e, HV.out]
            · rw [if_neg e]
              by_cases e2 : j < i
              · rw [if_pos e2, if_pos (by omega)]
              · rw [if_neg e2, if_neg (by omega)]
          case measure => simp [intOf]; omega
        · obtain ⟨wo, hwo⟩ : ∃ wo : World, wo = wr := ⟨_, rfl⟩
          have HROW1 : Hid (wr.rowIs w2.heap.size 5 (r + len1) (fun j => .int .u8 (if j < r + 0 then bz D j else 0))) := by
            have : i = r := by omega
            rw [this] at HROW; exact HROW
          rw [← hwo] at HROW1 HNX ⊢
          clear HROW hwo
          go_wp2
          go_loopw [8] (fun x wr => ∃ i : Nat, i ≤ len1 ∧ x = .int .i64 i ∧ Hid (wr.rowIs w2.heap.size 5 (r + len1) (fun j => .int .u8 (if j < r + i then bz D j else 0))) ∧ Hid (Below w2.heap.size w2 wr)) (fun x _ => len1 - (intOf x).toNat)
          case atStart => exact ⟨0, by omega, rfl, HROW1, HNX⟩
          case round =>
            obtain ⟨q, hq, rfl, HROW, HNX2⟩ := hrel
            by_cases hlt2 : q < len1
            · try exact absurd hlt2 (by have := HZC.out; omega)
              all_goals
                have hcb : wr.cell? ⟨gc, q, none⟩ = some (.int .u8 (bz C q)) := cell_later HNX2.out (HATC.out q (by rw [HCL.out]; exact hlt2))
                have hm0 := HROW.out.cell (i := r + q) (by omega)
                have hf0 := HROW.out.frozen (r + q)
                rw [if_neg (by omega)] at hm0
                rw [← HDC.out q] at hcb
                obtain ⟨v, hv⟩ : ∃ v, bz D (r + q) = v := ⟨_, rfl⟩
                rw [hv] at hcb
                have HV := hid hv
                clear hv
                go_wp2
                go_roundw
                case rel =>
                  refine ⟨q + 1, by omega, by go_num, (HROW.out.set (r + q) _).congr fun j _ => ?_, HNX2.out.setCell (Nat.le_refl _) _⟩
                  by_cases e : j = r + q
                  · rw [if_pos e, if_pos (by omega), e, HV.out]
                  · rw [if_neg e]
                    by_cases e2 : j < r + q
                    · rw [if_pos e2, if_pos (by omega)]
                    · rw [if_neg e2, if_neg (by omega)]
                case measure => simp [intOf]; omega
            · have HATD : Hid (Cb wr (some ⟨w2.heap.size, 0, none⟩) (r + len1) (r + len1) D) := by
                refine ⟨HDl.out, Nat.le_refl _, .inr ⟨w2.heap.size, rfl, fun j hj => ?_⟩⟩
                rw [HDl.out] at hj
                rw [HROW.out.cell hj, if_pos (by omega)]
              have HA3 := hid (HA2.out.later HNX2.out)
              have HM3 := hid (cell_later HNX2.out HM2.out)
              have HBW3 : Hid (Below w.heap.size w wr) := HBW2.out.trans (HNX2.out.mono HBW2.out.size)
              clear HROW HROW1 HNX HNX2
              go_wp2_with fail
              refine (zz_decl _ r len0 (B.take r) m _ (HA3.out.cut r hrn) (by omega) HM3.out).mono ?_
              rintro e w4 ⟨rfl, hb4⟩
              rw [HOWN.out]
              have HA4 := hid (HA3.out.later hb4)
              have HD4 := hid (HATD.out.later hb4)
              have HM4 := hid (cell_later hb4 HM3.out)
              have HBW4 : Hid (Below w.heap.size w w4) := HBW3.out.trans (hb4.mono HBW3.out.size)
              clear hb4 HA3 HATD HM3 HBW3
              go_wp2_with fail
              refine (zz_decl _ (r - 1) len0 (B.take (r - 1)) m _ (HA4.out.cut (r - 1) (by omega)) (by omega) HM4.out).mono ?_
              rintro e w5 ⟨rfl, hb5⟩
              rw [HSH.out]
              have HD5 := hid (HD4.out.later hb5)
              have HM5 := hid (cell_later hb5 HM4.out)
              have HBW5 : Hid (Below w.heap.size w w5) := HBW4.out.trans (hb5.mono HBW4.out.size)
              clear hb5 HA4 HD4 HM4 HBW4
              go_wp2_with fail
              refine (zz_decl _ (r + len1) (r + len1) D m _ HD5.out (by omega) HM5.out).mono ?_
              rintro e w6 ⟨rfl, hb6⟩
              rw [HMO.out]
              have HBW6 : Hid (Below w.heap.size w w6) := HBW5.out.trans (hb6.mono HBW5.out.size)
              clear hb6 HD5 HM5 HBW5
              go_wp2
              go_ret
              exact ⟨rfl, HBW6.out⟩

theorem own_law (m : Int) (a0 : Option Addr) (len0 cap0 : Nat) (z0 : List Int) (a1 : Option Addr) (len1 cap1 : Nat) (z1 : List Int) (w : World) (hm : w.cell? ⟨0, 0, none⟩ = some (.int .i64 m)) (w0 : IsRow .u8 w a0 len0 cap0 z0) (w1 : IsRow .u8 w a1 len1 cap1 z1) :
    Calls Try.prog 4 #[.slice a0 len0 cap0, .slice a1 len1 cap1] w fun e w' => e = .returned (.bool true) ∧ Below w.heap.size w w' := by
  by_cases h : 65536 < len0 ∨ 65536 < len1
  · exact own_long a0 len0 cap0 a1 len1 cap1 w (row_len w0) (row_len w1) h
  · exact own_main a0 len0 cap0 z0 a1 len1 cap1 z1 m w w0 w1 (by omega) (by omega) hm

end Go.Proofs.Qxb6605365a
