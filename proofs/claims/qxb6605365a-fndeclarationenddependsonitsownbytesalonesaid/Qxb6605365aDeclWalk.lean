/-
  THE WALK of 'declarationEnd': its loop.
-/
import Derived.Test.Qxb6605365aDecl
namespace Go.Proofs.Qxb6605365a
open Go.RowKit

theorem conv_two (W : World) (o : Obj) (C : Array Value) (n c : Nat) : (convert 22 22 (.slice (some ⟨W.heap.size + 1, 0, none⟩) n c)).run Try.prog ((W.alloc o).alloc (.cells C 5)) =
    .ok (.slice (some ⟨W.heap.size + 1, 0, none⟩) n c) ((W.alloc o).alloc (.cells C 5 (C.size, C.size + 1))) := by
  have h := Lib.run_convert_bytes_const (P := Try.prog) (W.alloc o) 22 5 C n c Try.underlying22 Try.underlying5
  rw [show (W.alloc o).heap.size = W.heap.size + 1 from by simp] at h
  exact h

theorem new_two (W : World) (o o' : Obj) : ((W.alloc o).alloc o').heap[W.heap.size + 1]? = some o' := by
  have h := heap_alloc_new (W.alloc o) o'
  rw [show (W.alloc o).heap.size = W.heap.size + 1 from by simp] at h
  exact h

set_option maxHeartbeats 1600000 in
theorem decl_main (g cap : Nat) (B : List UInt8) (n : Nat) (m : Int) (w : World) (hl : B.length = n) (hn : n ≤ 1000000) (hcap : n ≤ cap) (hc : At w g B) (hm : w.cell? ⟨0, 0, none⟩ = some (.int .i64 m)) :
    Calls Try.prog 14 #[.slice (some ⟨g, 0, none⟩) n cap] w fun e w' => e = .returned (.int .i64 (Cl B 3 0)) ∧ Below w.heap.size w w' := by
  have HC := hid hc
  have HL := hid hl
  have HM := hid hm
  have kc := fun (w : World) (C : Array Value) (n c : Nat) => Lib.run_convert_bytes_const (P := Try.prog) w 22 5 C n c Try.underlying22 Try.underlying5
  clear hc hl hm
  go_enter Try.func14, Try.ntmps14
  go_wp2
  go_loopw [3, 4, 5] (fun a b i wr => ∃ (j d : Nat) (Q : UInt8), j ≤ n + 3 ∧ d ≤ j ∧ a = .int .u8 (Q.toNat : Int) ∧ b = .int .i64 d ∧ i = .int .i64 j ∧ Hid (R B j Q d = Cl B 3 0) ∧ Below w.heap.size w wr) (fun _ _ i _ => n - (intOf i).toNat)
  case atStart => exact ⟨3, 0, 0, by omega, by omega, rfl, rfl, rfl, rfl, Below.refl _ _⟩
  case round =>
    obtain ⟨j, d, Q, hj, hd, rfl, rfl, rfl, HR, hnx⟩ := hrel
    by_cases hlt : j < n
    · have hjB : j < B.length := by rw [HL.out]; exact hlt
      have hcj : wr.cell? ⟨g, j, none⟩ = some (.int .u8 (((B.getD j 0).toNat : Nat) : Int)) := cell_later hnx (HC.out j hjB)
      have hbj := getD_some hjB
      obtain ⟨c, hcc⟩ : ∃ c, B.getD j 0 = c := ⟨_, rfl⟩
      rw [hcc] at hcj hbj
      have HB := hid hbj
      clear hbj hcc hjB
      by_cases hQ : Q = 0
      · subst hQ
        rw [show (((0 : UInt8).toNat : Nat) : Int) = 0 from rfl]
        by_cases hq : c = 34 ∨ c = 39
        · have HE : Hid (R B (j + 1) c d = Cl B 3 0) := by show _ = _; rw [← HR.out]; exact (R_quote HB.out hq).symm
          have hqq : (((c.toNat : Int) == 34) = true) ∨ (((c.toNat : Int) == 34) = false ∧ ((c.toNat : Int) == 39) = true) := by
            by_cases e : c = 34
            · exact .inl (num_true (d := 34) e)
            · exact .inr ⟨num_false (d := 34) e, num_true (d := 39) (hq.resolve_left e)⟩
          clear hq
          rcases hqq with h1 | ⟨h1, h2⟩
          all_goals
            go_wp2
            go_roundw
            case rel => exact ⟨j + 1, d, c, by omega, by omega, by first | rfl | (have := h1; simp at this; simp [this]), rfl, by go_num, HE, hnx⟩
            case measure => simp [intOf]; omega
        · have t1 : ((c.toNat : Int) == 34) = false := num_false (d := 34) fun e => hq (.inl e)
          have t2 : ((c.toNat : Int) == 39) = false := num_false (d := 39) fun e => hq (.inr e)
          have hnx1 : ∀ C, Below w.heap.size w (wr.alloc (.cells C 5 (4, 5))) := fun C => hnx.alloc hnx.size _
          have HA1 := hid fun C => HC.out.later (hnx1 C)
          have HNX := hid hnx
          have HNX1 := hid hnx1
          have hq1 : ¬ c = 34 := fun e => hq (.inl e)
          have hq2 : ¬ c = 39 := fun e => hq (.inr e)
          have hsz := hnx.size
          obtain ⟨o, ho⟩ : ∃ o, Lib.occAt B oc j = o := ⟨_, rfl⟩
          have HO := hid ho
          clear hnx1
          cases o with
          | true =>
            have hroom := occ_room (sub := oc) (by decide) ho
            have e4 : oc.length = 4 := rfl
            have hj4 : j + 4 ≤ n := by have := HL.out; omega
            have htq := hid (tok_comment HB.out hq ho)
            have hix := index_fr B (j + 4) (by have := HL.out; omega)
            obtain ⟨f, hf⟩ : ∃ f, fr B (j + 4) = f := ⟨_, rfl⟩
            rw [hf] at htq hix
            have HIX := hid hix
            have hfl : ∀ k, f = some k → j + 4 ≤ k ∧ k + 3 ≤ n := fun k e => by
              have := fr_room (hf.trans e); have := HL.out; omega
            clear ho hroom e4 hq hq1 hq2 hix hf hnx
            go_wp2_with fail
            refine (has_prefix g cap B n j wr.heap.size _ HL.out (by omega) hcap (by exact HA1.out _) (by exact heap_alloc_new wr _)).mono ?_
            rintro e w' ⟨rfl, rfl⟩
            rw [HO.out]
            have kc2 := conv_two
            have HB2 : Hid (∀ C C', Below w.heap.size w ((wr.alloc (.cells C 5 (4, 5))).alloc (.cells C' 5 (3, 4)))) := fun C C' => (HNX1.out C).alloc (by simp; omega) _
            have HAB : Hid (∀ C C' i, i < n → ((wr.alloc (.cells C 5 (4, 5))).alloc (.cells C' 5 (3, 4))).cell? ⟨g, i, none⟩ = some (.int .u8 (bz B i))) := fun C C' i hi => (HC.out.later (HB2.out C C')) i (by rw [HL.out]; exact hi)
            have HM2 : Hid (∀ C C', ((wr.alloc (.cells C 5 (4, 5))).alloc (.cells C' 5 (3, 4))).cell? ⟨0, 0, none⟩ = some (.int .i64 m)) := fun C C' => cell_later (HB2.out C C') HM.out
            have HLD : Hid ((B.drop (j + 4)).length = n - (j + 4)) := by show _ = _; rw [List.length_drop, HL.out]
            by_cases hcp : j + 4 < cap
            · go_wp2_with fail
              refine (index_at ⟨g, j + 4, none⟩ (n - (j + 4)) (cap - (j + 4)) (B.drop (j + 4)) (wr.heap.size + 1) m _ HLD.out (by omega) (by omega) ?ha (by exact new_two wr _ _) (by exact HM2.out _ _)).mono ?_
              case ha =>
                intro i hi
                have e : (⟨g, j + 4, none⟩ : Addr).add i = ⟨g, j + 4 + i, none⟩ := by unfold Addr.add; split <;> simp_all
                rw [e, bz_drop]
                exact HAB.out _ _ (j + 4 + i) (by omega)
              rintro e w' ⟨rfl, b, rfl⟩
              rw [HIX.out]
              clear kc kc2 HAB HM2 HLD HA1 HIX
              cases f with
              | none =>
                have HE : Hid (Cl B 3 0 = -1) := by show _ = _; rw [← HR.out, R_zero]; exact Cl_none htq.out d
                go_wp2
                go_ret
                exact ⟨ret_int HE.out.symm, bel_drewN (HB2.out _ _) _⟩
              | some k =>
                obtain ⟨hk1, hk2⟩ := hfl k rfl
                have HE : Hid (R B (k + 3) 0 d = Cl B 3 0) := by show _ = _; rw [← HR.out, R_zero, R_zero]; exact (Cl_flat htq.out d).symm
                clear hfl
                go_wp2
                go_roundw
                case rel => exact ⟨k + 3, d, 0, by omega, by omega, rfl, rfl, by go_num, HE, bel_drewN (HB2.out _ _) _⟩
                case measure => simp [intOf]; omega
            · have hn4 : n - (j + 4) = 0 := by omega
              cases f with
              | some k => exact absurd (hfl k rfl) (by omega)
              | none =>
                have HE : Hid (Cl B 3 0 = -1) := by show _ = _; rw [← HR.out, R_zero]; exact Cl_none htq.out d
                have hcq : j + 4 = cap := by omega
                clear hfl
                have HD0 : Hid ((B.drop (j + 4)).length = 0) := by show _ = _; rw [HLD.out]; exact hn4
                go_wp2_with fail
                refine (index_at ⟨g, 0, none⟩ 0 0 (B.drop (j + 4)) (wr.heap.size + 1) m _ HD0.out (by omega) (by omega) (fun i hi => absurd hi (by omega)) (by exact new_two wr _ _) (by exact HM2.out _ _)).mono ?_
                rintro e w' ⟨rfl, b, rfl⟩
                rw [HIX.out]
                go_wp2
                go_ret
                exact ⟨ret_int HE.out.symm, bel_drewN (HB2.out _ _) _⟩
          | false =>
            by_cases h60 : c = 60
            · have t3 : ((c.toNat : Int) == 60) = true := num_true (d := 60) h60
              have HE : Hid (R B (j + 1) 0 (d + 1) = Cl B 3 0) := by show _ = _; rw [← HR.out, R_zero, R_zero]; exact (Cl_up (tok_open (by rw [← h60]; exact HB.out) ho) d).symm
              clear ho hq hq1 hq2 h60 hnx
              go_wp2_with (go_at_call 17; refine (has_prefix g cap B n j wr.heap.size _ HL.out (by omega) hcap (by exact HA1.out _) (by exact heap_alloc_new wr _)).mono ?_; rintro e w' ⟨rfl, rfl⟩; rw [HO.out])
              go_roundw
              case rel => exact ⟨j + 1, d + 1, 0, by omega, by omega, rfl, by go_num, by go_num, HE, HNX1.out _⟩
              case measure => simp [intOf]; omega
            · have t3 : ((c.toNat : Int) == 60) = false := num_false (d := 60) h60
              by_cases h62 : c = 62
              · have t4 : ((c.toNat : Int) == 62) = true := num_true (d := 62) h62
                have htk := hid (tok_close (by rw [← h62]; exact HB.out) ho)
                clear ho hq hq1 hq2 h60 h62 hnx
                cases d with
                | zero =>
                  have HE : Hid (Cl B 3 0 = ((j + 1 : Nat) : Int)) := by show _ = _; rw [← HR.out, R_zero]; exact Cl_end htk.out
                  go_wp2_with (go_at_call 17; refine (has_prefix g cap B n j wr.heap.size _ HL.out (by omega) hcap (by exact HA1.out _) (by exact heap_alloc_new wr _)).mono ?_; rintro e w' ⟨rfl, rfl⟩; rw [HO.out])
                  go_ret
                  exact ⟨ret_int (by rw [HE.out]; omega), HNX1.out _⟩
                | succ d =>
                  have HE : Hid (R B (j + 1) 0 d = Cl B 3 0) := by show _ = _; rw [← HR.out, R_zero, R_zero]; exact (Cl_down htk.out d).symm
                  go_wp2_with (go_at_call 17; refine (has_prefix g cap B n j wr.heap.size _ HL.out (by omega) hcap (by exact HA1.out _) (by exact heap_alloc_new wr _)).mono ?_; rintro e w' ⟨rfl, rfl⟩; rw [HO.out])
                  go_roundw
                  case rel => exact ⟨j + 1, d, 0, by omega, by omega, rfl, by go_num, by go_num, HE, HNX1.out _⟩
                  case measure => simp [intOf]; omega
              · have t4 : ((c.toNat : Int) == 62) = false := num_false (d := 62) h62
                have HE : Hid (R B (j + 1) 0 d = Cl B 3 0) := by show _ = _; rw [← HR.out, R_zero, R_zero]; exact (Cl_flat (tok_else HB.out hq1 hq2 h60 h62 ho) d).symm
                clear ho hq hq1 hq2 h60 h62 hnx
                go_wp2_with (go_at_call 17; refine (has_prefix g cap B n j wr.heap.size _ HL.out (by omega) hcap (by exact HA1.out _) (by exact heap_alloc_new wr _)).mono ?_; rintro e w' ⟨rfl, rfl⟩; rw [HO.out])
                go_roundw
                case rel => exact ⟨j + 1, d, 0, by omega, by omega, rfl, rfl, by go_num, HE, HNX1.out _⟩
                case measure => simp [intOf]; omega
      · have tq : ((Q.toNat : Int) != 0) = true := by
          rw [bne_iff_ne]; exact fun e => hQ (UInt8.toNat_inj.1 (Int.ofNat.inj e))
        by_cases hcQ : c = Q
        · have HE : Hid (R B (j + 1) 0 d = Cl B 3 0) := by show _ = _; rw [← HR.out, R_zero]; exact (R_hit hQ (by rw [← hcQ]; exact HB.out)).symm
          have t1 : ((c.toNat : Int) == (Q.toNat : Int)) = true := num_true hcQ
          clear hcQ hQ
          go_wp2
          go_roundw
          case rel => exact ⟨j + 1, d, 0, by omega, by omega, rfl, rfl, by go_num, HE, hnx⟩
          case measure => simp [intOf]; omega
        · have HE : Hid (R B (j + 1) Q d = Cl B 3 0) := by show _ = _; rw [← HR.out]; exact (R_miss hQ HB.out hcQ).symm
          have t1 : ((c.toNat : Int) == (Q.toNat : Int)) = false := num_false hcQ
          clear hcQ hQ
          go_wp2
          go_roundw
          case rel => exact ⟨j + 1, d, Q, by omega, by omega, rfl, rfl, by go_num, HE, hnx⟩
          case measure => simp [intOf]; omega
    · have HE : Hid (Cl B 3 0 = -1) := by show _ = _; rw [← HR.out]; exact R_past (by rw [HL.out]; omega) Q d
      go_wp2
      go_ret
      exact ⟨ret_int HE.out.symm, hnx⟩
end Go.Proofs.Qxb6605365a
