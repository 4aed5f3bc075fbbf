/-
  THE WALK of the law 'FnDeclarationEndMatchesNestingGrammar'.
-/
import Derived.Test.Qxb6605365aCalls
namespace Go.Proofs.Qxb6605365a
open Go.RowKit

set_option maxHeartbeats 400000 in
theorem grammar_long (a0 : Option Addr) (len0 cap0 : Nat) (w : World) (m0 : len0 ≤ maxLen) (h0 : 65536 < len0) :
    Calls Try.prog 3 #[.slice a0 len0 cap0] w fun e w' => e = .returned (.bool true) ∧ Below w.heap.size w w' := by
  unfold maxLen at m0
  go_enter Try.func3, Try.ntmps3
  go_wp2
  all_goals (go_ret; exact ⟨rfl, Below.refl _ _⟩)

set_option maxHeartbeats 800000 in
theorem grammar_main (a0 : Option Addr) (len0 cap0 : Nat) (z0 : List Int) (m : Int) (w : World) (w0 : IsRow .u8 w a0 len0 cap0 z0) (h0 : len0 ≤ 65536) (hm : w.cell? ⟨0, 0, none⟩ = some (.int .i64 m)) :
    Calls Try.prog 3 #[.slice a0 len0 cap0] w fun e w' => e = .returned (.bool true) ∧ Below w.heap.size w w' := by
  have H0 := hid w0
  have HM := hid hm
  clear w0 hm
  go_enter Try.func3, Try.ntmps3
  go_wp2_with (go_at_call 6; go_in)
  refine (clone_any a0 len0 cap0 z0 _ H0.out (by omega)).mono ?_
  rintro e wa ⟨pa, rfl, hcb, hb0⟩
  obtain ⟨B, hB⟩ : ∃ B, bytesIn z0 len0 = B := ⟨_, rfl⟩
  rw [hB] at hcb
  have HA := hid hcb
  have HB0 := hid hb0
  have HMa := hid (cell_later hb0 HM.out)
  clear hcb hb0 H0 HM hB
  go_wp2_with fail
  refine (zz_decl pa len0 len0 B m _ HA.out (by omega) HMa.out).mono ?_
  rintro e wb ⟨rfl, hb1⟩
  have HBb := hid (HA.out.later hb1)
  have HBW : Hid (Below w.heap.size w wb) := HB0.out.trans (hb1.mono HB0.out.size)
  clear HA hb1 HB0 HMa
  have hcl := Cl_is B 3 0
  rcases hcl with hC | ⟨r, hC, hr1, hr2, hr3⟩
  · have HCC := hid hC
    rw [hC]
    clear hC
    go_wp2_with (go_at_call 9; refine (zz_model pa len0 len0 B _ HBb.out (by omega)).mono ?_; rintro e w' ⟨rfl, k, rfl⟩; rw [HCC.out])
    go_ret
    exact ⟨rfl, bel_drewN HBW.out _⟩
  · have HCC := hid hC
    have hl := HBb.out.1
    obtain ⟨g, hp, hat⟩ := HBb.out.2.2.resolve_left (by omega)
    have hcell : wb.cell? ⟨g, r - 1, none⟩ = some (.int .u8 62) := by
      rw [hat (r - 1) (by omega)]
      unfold bz
      rw [List.getD_eq_getElem?_getD, hr3]; rfl
    have hrn : r ≤ len0 := by omega
    rw [hp] at HBb ⊢
    rw [hC]
    clear hC hr2 hr3 hl hp hat
    go_wp2_with (go_at_call 9; refine (zz_model _ len0 len0 B _ HBb.out (by omega)).mono ?_; rintro e w' ⟨rfl, k, rfl⟩; rw [HCC.out])
    go_ret
    exact ⟨rfl, bel_drewN HBW.out _⟩

theorem grammar_any (m : Int) (a0 : Option Addr) (len0 cap0 : Nat) (z0 : List Int) (w : World) (hm : w.cell? ⟨0, 0, none⟩ = some (.int .i64 m)) (w0 : IsRow .u8 w a0 len0 cap0 z0) :
    Calls Try.prog 3 #[.slice a0 len0 cap0] w fun e w' => e = .returned (.bool true) ∧ Below w.heap.size w w' := by
  by_cases h : 65536 < len0
  · exact grammar_long a0 len0 cap0 w (row_len w0) h
  · exact grammar_main a0 len0 cap0 z0 m w w0 (by omega) hm

end Go.Proofs.Qxb6605365a
