/-
  THE WALK of the law 'FnValueEndSkipsQuotedStrings': the texts laid out, and the five calls.
-/
import Derived.Test.Qxb6605386aLaw
namespace Go.Proofs.Qxb6605386a
open Go.RowKit

theorem zz_string' (g cap : Nat) (D : List UInt8) (n i e : Nat) (w : World) (I R : Int) (hl : D.length = n) (hn : n ≤ 100000000) (hcap : n ≤ cap) (hc : At w g D) (hs : StrAt D i e) (hI : (i : Int) = I) (hR : (e : Int) + 1 = R) :
    Calls Try.prog 17 #[.slice (some ⟨g, 0, none⟩) n cap, .int .i64 I] w fun r w' => r = .returned (.int .i64 R) ∧ w' = w := by
  subst hI hR
  exact zz_string g cap D n i e w hl hn hcap hc hs

theorem zz_open' (g cap : Nat) (D : List UInt8) (n i0 T : Nat) (Inv : Nat → Nat → Prop) (w : World) (I R : Int) (hl : D.length = n) (hn : n ≤ 100000000) (hcap : n ≤ cap) (hc : At w g D)
    (hst : Steps D T Inv) (h0 : Inv i0 0) (hi0 : D[i0]? = some 91 ∨ D[i0]? = some 123) (hI : (i0 : Int) = I) (hR : (T : Int) = R) :
    Calls Try.prog 17 #[.slice (some ⟨g, 0, none⟩) n cap, .int .i64 I] w fun r w' => r = .returned (.int .i64 R) ∧ w' = w := by
  subst hI hR
  exact zz_open g cap D n i0 T Inv w hl hn hcap hc hst h0 hi0

set_option maxRecDepth 100000 in
set_option maxHeartbeats 3200000 in
theorem skips_main (a0 : Option Addr) (l0 c0 : Nat) (P : List UInt8) (a1 : Option Addr) (l1 c1 : Nat) (A : List UInt8) (a2 : Option Addr) (l2 c2 : Nat) (B : List UInt8) (a3 : Option Addr) (l3 c3 : Nat) (T : List UInt8) (w : World)
    (h0 : In w a0 l0 P) (h1 : In w a1 l1 A) (h2 : In w a2 l2 B) (h3 : In w a3 l3 T) (k1 : a1 = none → c1 = 0) (k2 : a2 = none → c2 = 0) (h : l0 + l1 + l2 + l3 ≤ 1048576) :
    Calls Try.prog 6 #[.slice a0 l0 c0, .slice a1 l1 c1, .slice a2 l2 c2, .slice a3 l3 c3] w fun e w' => e = .returned (.bool true) ∧ Below w.heap.size w w' := by
  obtain ⟨la, hla⟩ : ∃ la, (quo A).length = la := ⟨_, rfl⟩
  obtain ⟨lb, hlb⟩ : ∃ lb, (quo B).length = lb := ⟨_, rfl⟩
  have hla2 : la ≤ 6 * l1 + 2 := by rw [← hla, quo_length]; have := enc_length A; have := h1.1; omega
  have hlb2 : lb ≤ 6 * l2 + 2 := by rw [← hlb, quo_length]; have := enc_length B; have := h2.1; omega
  have HLA := hid hla
  have HLB := hid hlb
  have H0 := hid h0
  have H1 := hid h1
  have H2 := hid h2
  have H3 := hid h3
  have K1 := hid k1
  have K2 := hid k2
  clear h0 h1 h2 h3 k1 k2 hla hlb
  go_enter Try.func6, Try.ntmps6
  go_wp2_with (go_at_call 19; go_in)
  refine (append_any a1 l1 c1 A _ K1.out H1.out (by omega)).mono ?_
  rintro e wa ⟨ga, ca, rfl, hoA, hbA⟩
  rw [HLA.out] at hoA ⊢
  have HQA := hid (in_of_owns hoA)
  have HBA := hid hbA
  have H2' := hid (H2.out.later hbA)
  clear hoA hbA H1 H2 K1
  go_wp2_with fail
  refine (append_any a2 l2 c2 B _ K2.out H2'.out (by omega)).mono ?_
  rintro e wm ⟨gb, cb, rfl, hoB, hbB⟩
  rw [HLB.out] at hoB ⊢
  have HQB := hid (in_of_owns hoB)
  have HQA1 := hid (HQA.out.later hbB)
  have HBM : Hid (Below w.heap.size w wm) := HBA.out.trans (hbB.mono HBA.out.size)
  have H0m := hid (H0.out.later HBM.out)
  have H3m := hid (H3.out.later HBM.out)
  clear hoB hbB H2' HQA HBA K2 H0 H3
  obtain ⟨i0, hi, hz0, hz1, hz2⟩ := info_parts info5
  go_wp2_with (at_make; refine wpList_make_own _ rfl _ _ 22 rfl wm.heap.size 5 i0 (.int .u8 0) 1 Try.underlying22 hi hz0 hz1 .i64 .i64 _ (l0 + 2 * la + lb + l3 + 6) rfl rfl (by omega) (by rw [hz2]; omega) (by unfold maxLen; omega) (Nat.le_refl _) ?_)
  intro w0 ho0 hg0
  have HO0 : Hid (w0.ownsRow wm.heap.size 5 1 (.slice (some ⟨wm.heap.size, 0, none⟩) 0 (l0 + 2 * la + lb + l3 + 6)) 0 (cellsB [])) := ho0
  have HB0 : Hid (Below wm.heap.size wm w0) := (Below.refl _ _).grown hg0 (Nat.le_refl _) (fun k hk => by cases hk)
  clear ho0 hg0 hi hz0 hz1 hz2
  obtain ⟨D1, hD1⟩ : ∃ D, P = D := ⟨_, rfl⟩
  obtain ⟨D2, hD2⟩ : ∃ D, D1 ++ [91] = D := ⟨_, rfl⟩
  obtain ⟨D3, hD3⟩ : ∃ D, D2 ++ quo A = D := ⟨_, rfl⟩
  obtain ⟨D4, hD4⟩ : ∃ D, D3 ++ [44, 123] = D := ⟨_, rfl⟩
  obtain ⟨D5, hD5⟩ : ∃ D, D4 ++ quo B = D := ⟨_, rfl⟩
  obtain ⟨D6, hD6⟩ : ∃ D, D5 ++ [58] = D := ⟨_, rfl⟩
  obtain ⟨D7, hD7⟩ : ∃ D, D6 ++ quo A = D := ⟨_, rfl⟩
  obtain ⟨D8, hD8⟩ : ∃ D, D7 ++ [125, 93] = D := ⟨_, rfl⟩
  obtain ⟨D9, hD9⟩ : ∃ D, D8 ++ T = D := ⟨_, rfl⟩
  have HLAY : Hid (D9 = lay P A B T) := by
    show _ = _
    rw [← hD9, ← hD8, ← hD7, ← hD6, ← hD5, ← hD4, ← hD3, ← hD2, ← hD1]
    unfold lay
    simp only [List.append_assoc]
  have E1 := hid hD1
  have E2 := hid hD2
  have E3 := hid hD3
  have E4 := hid hD4
  have E5 := hid hD5
  have E6 := hid hD6
  have E7 := hid hD7
  have E8 := hid hD8
  have E9 := hid hD9
  clear hD1 hD2 hD3 hD4 hD5 hD6 hD7 hD8 hD9
  go_wp2_with (at_builtin; refine app22 _ rfl (.tmp 76) (.tmp 77) rfl wm.heap.size _ _ [] rfl HO0.out a0 l0 c0 P rfl (H0m.out.later HB0.out) (by omega) (.inl (by intro e; cases e)) wm HB0.out HB0.out.size ?_)
  intro g1 cp1 w1 ho1 hb1
  rw [E1.out] at ho1
  have HO1 := hid ho1
  have HB1 := hid hb1
  clear ho1 hb1 HO0 HB0 E1
  go_wp2_with (at_builtin; refine app22 _ rfl (.tmp 81) (.tmp 82) rfl wm.heap.size _ _ D1 rfl (by exact HO1.out.alloc _) _ 1 1 [91] rfl (by exact in_new w1 [91] 1 rfl _ rfl) (by omega) (.inl (by intro e; cases e)) wm (by exact HB1.out.alloc HB1.out.size _) (by have := HB1.out.size; simp; omega) ?_)
  intro g2 cp2 w2 ho2 hb2
  rw [E2.out] at ho2
  have HO2 := hid ho2
  have HB2 := hid hb2
  clear ho2 hb2 HO1 HB1 E2
  go_wp2_with (at_builtin; refine app22 _ rfl (.tmp 86) (.tmp 87) rfl wm.heap.size _ _ D2 rfl HO2.out (some ⟨ga, 0, none⟩) la ca (quo A) rfl (HQA1.out.later HB2.out) (by omega) (.inl (by intro e; cases e)) wm HB2.out HB2.out.size ?_)
  intro g3 cp3 w3 ho3 hb3
  rw [E3.out] at ho3
  have HO3 := hid ho3
  have HB3 := hid hb3
  clear ho3 hb3 HO2 HB2 E3
  go_wp2_with (at_builtin; refine app22 _ rfl (.tmp 91) (.tmp 92) rfl wm.heap.size _ _ D3 rfl (by exact HO3.out.alloc _) _ 2 2 [44, 123] rfl (by exact in_new w3 [44, 123] 2 rfl _ rfl) (by omega) (.inl (by intro e; cases e)) wm (by exact HB3.out.alloc HB3.out.size _) (by have := HB3.out.size; simp; omega) ?_)
  intro g4 cp4 w4 ho4 hb4
  rw [E4.out] at ho4
  have HO4 := hid ho4
  have HB4 := hid hb4
  clear ho4 hb4 HO3 HB3 E4
  go_wp2_with (at_builtin; refine app22 _ rfl (.tmp 98) (.tmp 99) rfl wm.heap.size _ _ D4 rfl HO4.out (some ⟨gb, 0, none⟩) lb cb (quo B) rfl (HQB.out.later HB4.out) (by omega) (.inl (by intro e; cases e)) wm HB4.out HB4.out.size ?_)
  intro g5 cp5 w5 ho5 hb5
  rw [E5.out] at ho5
  have HO5 := hid ho5
  have HB5 := hid hb5
  clear ho5 hb5 HO4 HB4 E5
  go_wp2_with (at_builtin; refine app22 _ rfl (.tmp 103) (.tmp 104) rfl wm.heap.size _ _ D5 rfl (by exact HO5.out.alloc _) _ 1 1 [58] rfl (by exact in_new w5 [58] 1 rfl _ rfl) (by omega) (.inl (by intro e; cases e)) wm (by exact HB5.out.alloc HB5.out.size _) (by have := HB5.out.size; simp; omega) ?_)
  intro g6 cp6 w6 ho6 hb6
  rw [E6.out] at ho6
  have HO6 := hid ho6
  have HB6 := hid hb6
  clear ho6 hb6 HO5 HB5 E6
  go_wp2_with (at_builtin; refine app22 _ rfl (.tmp 108) (.tmp 109) rfl wm.heap.size _ _ D6 rfl HO6.out (some ⟨ga, 0, none⟩) la ca (quo A) rfl (HQA1.out.later HB6.out) (by omega) (.inl (by intro e; cases e)) wm HB6.out HB6.out.size ?_)
  intro g7 cp7 w7 ho7 hb7
  rw [E7.out] at ho7
  have HO7 := hid ho7
  have HB7 := hid hb7
  clear ho7 hb7 HO6 HB6 E7
  go_wp2_with (at_builtin; refine app22 _ rfl (.tmp 113) (.tmp 114) rfl wm.heap.size _ _ D7 rfl (by exact HO7.out.alloc _) _ 2 2 [125, 93] rfl (by exact in_new w7 [125, 93] 2 rfl _ rfl) (by omega) (.inl (by intro e; cases e)) wm (by exact HB7.out.alloc HB7.out.size _) (by have := HB7.out.size; simp; omega) ?_)
  intro g8 cp8 w8 ho8 hb8
  rw [E8.out] at ho8
  have HO8 := hid ho8
  have HB8 := hid hb8
  clear ho8 hb8 HO7 HB7 E8
  go_wp2_with (at_builtin; refine app22 _ rfl (.tmp 120) (.tmp 121) rfl wm.heap.size _ _ D8 rfl HO8.out a3 l3 c3 T rfl (H3m.out.later HB8.out) (by omega) (.inl (by intro e; cases e)) wm HB8.out HB8.out.size ?_)
  intro g9 cp9 w9 ho9 hb9
  rw [E9.out] at ho9
  have HO9 := hid ho9
  have HB9 := hid hb9
  clear ho9 hb9 HO8 HB8 E9
  obtain ⟨hAt, hDl, hDc⟩ := at_of_owns HO9.out
  have HAT := hid hAt
  have HDL := hid hDl
  have HLD : Hid (Laid D9 l0 (l0 + 1) (l0 + 1 + la) (l0 + 1 + la + 1) (l0 + 1 + la + 2) (l0 + 1 + la + 2 + lb) (l0 + 1 + la + 2 + lb + 1) (l0 + 1 + la + 2 + lb + 1 + la) (l0 + 1 + la + 2 + lb + 1 + la + 1)) := by
    show Laid _ _ _ _ _ _ _ _ _ _
    rw [HLAY.out]
    exact laid P A B T l0 la lb H0m.out.1 HLA.out HLB.out
  have HBW : Hid (Below w.heap.size w w9) := HBM.out.trans (HB9.out.mono HBM.out.size)
  have e2 := HLD.out.e2
  have e5 := HLD.out.e5
  have e7 := HLD.out.e7
  clear hAt hDl HO9 HB9 HLAY HLA HLB H0m H3m HQB HQA1 HBM
  go_wp2_with fail
  refine (zz_open' g9 cp9 D9 _ l0 (l0 + 1 + la + 2 + lb + 1 + la + 1 + 1) _ w9 _ ((l0 : Int) + 1 + la + 2 + lb + 1 + la + 2) HDL.out (by omega) hDc HAT.out (steps_array HLD.out) (.inl ⟨rfl, rfl⟩) (.inl HLD.out.cs) rfl (by omega)).mono ?_
  rintro e w' ⟨rfl, hw⟩
  rw [hw]
  clear hw w'
  go_wp2_with fail
  refine (zz_string' g9 cp9 D9 _ (l0 + 1) (l0 + 1 + la - 1) w9 _ ((l0 : Int) + 1 + la) HDL.out (by omega) hDc HAT.out HLD.out.s1 (by omega) (by omega)).mono ?_
  rintro e w' ⟨rfl, hw⟩
  rw [hw]
  clear hw w'
  go_wp2_with fail
  refine (zz_open' g9 cp9 D9 _ (l0 + 1 + la + 1) (l0 + 1 + la + 2 + lb + 1 + la + 1) _ w9 _ ((l0 : Int) + 1 + la + 2 + lb + 1 + la + 1) HDL.out (by omega) hDc HAT.out (steps_object HLD.out) (.inl ⟨rfl, rfl⟩) (.inr HLD.out.c3) (by omega) (by omega)).mono ?_
  rintro e w' ⟨rfl, hw⟩
  rw [hw]
  clear hw w'
  go_wp2_with fail
  refine (zz_string' g9 cp9 D9 _ (l0 + 1 + la + 2) (l0 + 1 + la + 2 + lb - 1) w9 _ ((l0 : Int) + 1 + la + 2 + lb) HDL.out (by omega) hDc HAT.out HLD.out.s4 (by omega) (by omega)).mono ?_
  rintro e w' ⟨rfl, hw⟩
  rw [hw]
  clear hw w'
  go_wp2_with fail
  refine (zz_string' g9 cp9 D9 _ (l0 + 1 + la + 2 + lb + 1) (l0 + 1 + la + 2 + lb + 1 + la - 1) w9 _ ((l0 : Int) + 1 + la + 2 + lb + 1 + la) HDL.out (by omega) hDc HAT.out HLD.out.s6 (by omega) (by omega)).mono ?_
  rintro e w' ⟨rfl, hw⟩
  rw [hw]
  clear hw w'
  go_wp2
  go_ret
  exact ⟨rfl, HBW.out⟩

theorem skips_any (a0 : Option Addr) (l0 c0 : Nat) (z0 : List Int) (a1 : Option Addr) (l1 c1 : Nat) (z1 : List Int) (a2 : Option Addr) (l2 c2 : Nat) (z2 : List Int) (a3 : Option Addr) (l3 c3 : Nat) (z3 : List Int) (w : World)
    (w0 : IsRow .u8 w a0 l0 c0 z0) (w1 : IsRow .u8 w a1 l1 c1 z1) (w2 : IsRow .u8 w a2 l2 c2 z2) (w3 : IsRow .u8 w a3 l3 c3 z3) :
    Calls Try.prog 6 #[.slice a0 l0 c0, .slice a1 l1 c1, .slice a2 l2 c2, .slice a3 l3 c3] w fun e w' => e = .returned (.bool true) ∧ Below w.heap.size w w' := by
  by_cases h : 1048576 < l0 + l1 + l2 + l3
  · exact skips_long a0 l0 c0 a1 l1 c1 a2 l2 c2 a3 l3 c3 w (row_len w0) (row_len w1) (row_len w2) (row_len w3) h
  · exact skips_main a0 l0 c0 (bytesIn z0 l0) a1 l1 c1 (bytesIn z1 l1) a2 l2 c2 (bytesIn z2 l2) a3 l3 c3 (bytesIn z3 l3) w (in_of_row w0).1 (in_of_row w1).1 (in_of_row w2).1 (in_of_row w3).1 (in_of_row w1).2 (in_of_row w2).2 (by omega)
end Go.Proofs.Qxb6605386a
