/-
  THE WALK of 'zzCloseLevel', which calls itself: by induction on the bytes that are left.
-/
import Derived.Test.Qxb6605365aFind
namespace Go.Proofs.Qxb6605365a
open Go.RowKit

theorem find_byte' (g cap : Nat) (B : List UInt8) (n s : Nat) (c : UInt8) (w : World) (S : Int) (hl : B.length = n) (hn : n ≤ 1000000) (hs : s ≤ n) (hc : At w g B) (hS : (s : Int) = S) :
    Calls Try.prog 19 #[.slice (some ⟨g, 0, none⟩) n cap, .int .i64 S, .int .u8 (c.toNat : Int)] w fun e w' => e = .returned (.int .i64 (resF (fb B c s))) ∧ w' = w := by
  subst hl hS
  exact find_byte g cap B s c w hn hs hc
theorem find_run' (g cap : Nat) (B : List UInt8) (n s : Nat) (w : World) (S : Int) (hl : B.length = n) (hn : n ≤ 1000000) (hs : s ≤ n) (hc : At w g B) (hS : (s : Int) = S) :
    Calls Try.prog 21 #[.slice (some ⟨g, 0, none⟩) n cap, .int .i64 S, .string ⟨#[45, 45, 62]⟩] w fun e w' => e = .returned (.int .i64 (resF (fr B s))) ∧ ∃ k, w' = w.drewN k := by
  subst hl hS
  exact find_run g cap B s w hn hs hc
theorem zz_at' (g cap : Nat) (B : List UInt8) (n i : Nat) (w : World) (hl : B.length = n) (hn : n ≤ 1000000) (hi : i ≤ n) (hc : At w g B) :
    Calls Try.prog 20 #[.slice (some ⟨g, 0, none⟩) n cap, .int .i64 i, .string ⟨#[60, 33, 45, 45]⟩] w fun e w' => e = .returned (.bool (Lib.occAt B oc i)) ∧ ∃ k, w' = w.drewN k := by
  subst hl
  exact zz_at g cap B i ⟨#[60, 33, 45, 45]⟩ w hn (by decide) hi hc

theorem getD_some {B : List UInt8} {j : Nat} (h : j < B.length) : B[j]? = some (B.getD j 0) := by
  rw [List.getD_eq_getElem?_getD, List.getElem?_eq_getElem h]; rfl

theorem tok_quote {B : List UInt8} {j : Nat} {c : UInt8} (h : B[j]? = some c) (hc : c = 34 ∨ c = 39) : tok B j = (fb B c (j + 1)).map fun k => (k + 1, 0) := by
  unfold tok; rw [h]; simp only []; rw [if_pos hc]
theorem tok_comment {B : List UInt8} {j : Nat} {c : UInt8} (h : B[j]? = some c) (hc : ¬ (c = 34 ∨ c = 39)) (ho : Lib.occAt B oc j = true) : tok B j = (fr B (j + 4)).map fun k => (k + 3, 0) := by
  unfold tok; rw [h]; simp only []; rw [if_neg hc, if_pos ho]
theorem tok_open {B : List UInt8} {j : Nat} (h : B[j]? = some 60) (ho : Lib.occAt B oc j = false) : tok B j = some (j + 1, 1) := by
  unfold tok; rw [h]; simp only []; rw [if_neg (by decide), ho]; rfl
theorem tok_close {B : List UInt8} {j : Nat} (h : B[j]? = some 62) (ho : Lib.occAt B oc j = false) : tok B j = some (j + 1, -1) := by
  unfold tok; rw [h]; simp only []; rw [if_neg (by decide), ho]; rfl
theorem tok_else {B : List UInt8} {j : Nat} {c : UInt8} (h : B[j]? = some c) (h1 : ¬ c = 34) (h2 : ¬ c = 39) (h3 : ¬ c = 60) (h4 : ¬ c = 62) (ho : Lib.occAt B oc j = false) : tok B j = some (j + 1, 0) := by
  unfold tok; rw [h]; simp only []; rw [if_neg (by simp [h1, h2]), ho]; simp [h3, h4]

/-- a comment begins with '<' -/
theorem occ_head {B : List UInt8} {j : Nat} {c : UInt8} (h : B[j]? = some c) (ho : Lib.occAt B oc j = true) : c = 60 := by
  have hr := occ_room (sub := oc) (by decide) ho
  have := (occ_iff B oc j hr).1 ho 0 (by decide)
  rw [Nat.add_zero, h] at this
  exact Option.some.inj this
theorem not_occ {B : List UInt8} {j : Nat} {c : UInt8} (h : B[j]? = some c) (hc : ¬ c = 60) : Lib.occAt B oc j = false := by
  rw [Bool.eq_false_iff]; exact fun ho => hc (occ_head h ho)

theorem num_true {c d : UInt8} (h : c = d) : ((c.toNat : Int) == (d.toNat : Int)) = true := by rw [h]; simp
theorem num_false {c d : UInt8} (h : ¬ c = d) : ((c.toNat : Int) == (d.toNat : Int)) = false := by
  rw [beq_eq_false_iff_ne]
  exact fun e => h (UInt8.toNat_inj.1 (Int.ofNat.inj e))

theorem fr_room {B : List UInt8} {s k : Nat} (h : fr B s = some k) : s ≤ k ∧ k + 3 ≤ B.length := by
  obtain ⟨h1, h2, h3, _⟩ := ffirst_some h
  have := occ_room (sub := ec) (by decide) h3
  exact ⟨h1, this⟩

set_option maxHeartbeats 1600000 in
theorem close_level (g cap : Nat) (B : List UInt8) (n : Nat) (hl : B.length = n) (hn : n ≤ 1000000) : ∀ (m i0 : Nat) (w : World), n ≤ i0 + m → i0 ≤ 1000003 → At w g B →
    Calls Try.prog 15 #[.slice (some ⟨g, 0, none⟩) n cap, .int .i64 i0] w fun e w' => e = .returned (.int .i64 (Cl B i0 0)) ∧ ∃ k, w' = w.drewN k := by
  intro m
  induction m with
  | zero =>
    intro i0 w him hi0 hc
    have HE : Hid (Cl B i0 0 = -1) := Cl_none (tok_past (by omega)) 0
    clear hc hl
    go_enter Try.func15, Try.ntmps15
    go_wp2
    go_loop [1] (fun x => x = .int .i64 i0) (fun _ => 0)
    case atStart => rfl
    case round =>
      obtain rfl := hrel
      go_wp2
      go_ret
      exact ⟨ret_int HE.out.symm, 0, rfl⟩
  | succ m ih =>
    intro i0 w him hi0 hc
    have IH := hid ih
    have HC := hid hc
    have HL := hid hl
    clear ih hc hl
    go_enter Try.func15, Try.ntmps15
    go_wp2
    go_loopw [1] (fun x wr => ∃ j q : Nat, i0 ≤ j ∧ j ≤ 1000003 ∧ x = .int .i64 j ∧ Hid (Cl B j 0 = Cl B i0 0) ∧ wr = w.drewN q) (fun x _ => n - (intOf x).toNat)
    case atStart => exact ⟨i0, 0, by omega, hi0, rfl, rfl, rfl⟩
    case round =>
      obtain ⟨j, q, hj1, hj2, rfl, HJ, rfl⟩ := hrel
      by_cases hlt : j < n
      · have hjB : j < B.length := by rw [HL.out]; exact hlt
        have hcj : w.cell? ⟨g, j, none⟩ = some (.int .u8 (((B.getD j 0).toNat : Nat) : Int)) := HC.out j hjB
        have hbj := getD_some hjB
        obtain ⟨c, hcc⟩ : ∃ c, B.getD j 0 = c := ⟨_, rfl⟩
        rw [hcc] at hcj hbj
        have HB := hid hbj
        clear hbj hcc hjB
        by_cases hq : c = 34 ∨ c = 39
        · have htq := hid (tok_quote HB.out hq)
          have HF : ∀ W, At W g B → Calls Try.prog 19 #[.slice (some ⟨g, 0, none⟩) n cap, .int .i64 ((j : Int) + 1), .int .u8 (c.toNat : Int)] W fun e w' => e = .returned (.int .i64 (resF (fb B c (j + 1)))) ∧ w' = W :=
            fun W h => find_byte' g cap B n (j + 1) c W _ HL.out hn (by omega) h (by omega)
          obtain ⟨f, hf⟩ : ∃ f, fb B c (j + 1) = f := ⟨_, rfl⟩
          rw [hf] at htq HF
          have HFF := hid HF
          have hfl : ∀ k, f = some k → j + 1 ≤ k ∧ k < n := fun k e => by
            have := ffirst_some (hf.trans e); have := HL.out; omega
          have hqq : (((c.toNat : Int) == 34) = true) ∨ (((c.toNat : Int) == 34) = false ∧ ((c.toNat : Int) == 39) = true) := by
            by_cases e : c = 34
            · exact .inl (num_true (d := 34) e)
            · exact .inr ⟨num_false (d := 34) e, num_true (d := 39) (hq.resolve_left e)⟩
          clear HF hf hq
          cases f with
          | none =>
            have HE : Hid (Cl B i0 0 = -1) := by show _ = _; rw [← HJ.out]; exact Cl_none htq.out 0
            rcases hqq with h1 | ⟨h1, h2⟩
            all_goals
              go_wp2_with (go_at_call 19; refine (HFF.out _ (by exact HC.out)).mono ?_; rintro e w' ⟨rfl, hw⟩; rw [show resF none = -1 from rfl, hw])
              go_ret
              exact ⟨ret_int HE.out.symm, q, rfl⟩
          | some k =>
            obtain ⟨hk1, hk2⟩ := hfl k rfl
            have HE : Hid (Cl B (k + 1) 0 = Cl B i0 0) := by show _ = _; rw [← HJ.out]; exact (Cl_flat htq.out 0).symm
            clear hfl
            rcases hqq with h1 | ⟨h1, h2⟩
            all_goals
              go_wp2_with (go_at_call 19; refine (HFF.out _ (by exact HC.out)).mono ?_; rintro e w' ⟨rfl, hw⟩; rw [show resF (some k) = (k : Int) from rfl, hw])
              go_roundw
              case rel => exact ⟨k + 1, q, by omega, by omega, by go_num, HE, rfl⟩
              case measure => simp [intOf]; omega
        · have hq1 : ¬ c = 34 := fun e => hq (.inl e)
          have hq2 : ¬ c = 39 := fun e => hq (.inr e)
          have t1 : ((c.toNat : Int) == 34) = false := num_false (d := 34) hq1
          have t2 : ((c.toNat : Int) == 39) = false := num_false (d := 39) hq2
          by_cases h60 : c = 60
          · have t3 : ((c.toNat : Int) == 60) = true := num_true (d := 60) h60
            have HZ : ∀ W, At W g B → Calls Try.prog 20 #[.slice (some ⟨g, 0, none⟩) n cap, .int .i64 j, .string ⟨#[60, 33, 45, 45]⟩] W fun e w' => e = .returned (.bool (Lib.occAt B oc j)) ∧ ∃ k, w' = W.drewN k :=
              fun W h => zz_at' g cap B n j W HL.out hn (by omega) h
            obtain ⟨o, ho⟩ : ∃ o, Lib.occAt B oc j = o := ⟨_, rfl⟩
            rw [ho] at HZ
            have HZZ := hid HZ
            clear HZ
            cases o with
            | true =>
              have hroom := occ_room (sub := oc) (by decide) ho
              have e4 : oc.length = 4 := rfl
              have hj4 : j + 4 ≤ n := by have := HL.out; omega
              have htq := hid (tok_comment HB.out hq ho)
              have HF : ∀ W, At W g B → Calls Try.prog 21 #[.slice (some ⟨g, 0, none⟩) n cap, .int .i64 ((j : Int) + 4), .string ⟨#[45, 45, 62]⟩] W fun e w' => e = .returned (.int .i64 (resF (fr B (j + 4)))) ∧ ∃ k, w' = W.drewN k :=
                fun W h => find_run' g cap B n (j + 4) W _ HL.out hn (by omega) h (by omega)
              obtain ⟨f, hf⟩ : ∃ f, fr B (j + 4) = f := ⟨_, rfl⟩
              rw [hf] at htq HF
              have HFF := hid HF
              have hfl : ∀ k, f = some k → j + 4 ≤ k ∧ k + 3 ≤ n := fun k e => by
                have := fr_room (hf.trans e); have := HL.out; omega
              clear HF hf hq hq1 hq2 h60 ho hroom e4
              cases f with
              | none =>
                have HE : Hid (Cl B i0 0 = -1) := by show _ = _; rw [← HJ.out]; exact Cl_none htq.out 0
                go_wp2_with (first
                  | (go_at_call 20; refine (HZZ.out _ (by exact HC.out)).mono ?_; rintro e w' ⟨rfl, a, rfl⟩)
                  | (go_at_call 21; refine (HFF.out _ (by exact HC.out)).mono ?_; rintro e w' ⟨rfl, b, rfl⟩; rw [show resF none = -1 from rfl]))
                go_ret
                exact ⟨ret_int HE.out.symm, q + a + b, rfl⟩
              | some k =>
                obtain ⟨hk1, hk2⟩ := hfl k rfl
                have HE : Hid (Cl B (k + 3) 0 = Cl B i0 0) := by show _ = _; rw [← HJ.out]; exact (Cl_flat htq.out 0).symm
                clear hfl
                go_wp2_with (first
                  | (go_at_call 20; refine (HZZ.out _ (by exact HC.out)).mono ?_; rintro e w' ⟨rfl, a, rfl⟩)
                  | (go_at_call 21; refine (HFF.out _ (by exact HC.out)).mono ?_; rintro e w' ⟨rfl, b, rfl⟩; rw [show resF (some k) = (k : Int) from rfl]))
                go_roundw
                case rel => exact ⟨k + 3, q + a + b, by omega, by omega, by go_num, HE, rfl⟩
                case measure => simp [intOf]; omega
            | false =>
              have htq := hid (tok_open (by rw [← h60]; exact HB.out) ho)
              have hnest := nest_any B (j + 1) 0
              have HN : Hid (Cl B i0 0 = if Cl B (j + 1) 0 < 0 then -1 else Cl B (Cl B (j + 1) 0).toNat 0) := by show _ = _; rw [← HJ.out, Cl_up htq.out, hnest]
              have hmm := Cl_is B (j + 1) 0
              have IH' : ∀ W, At W g B → Calls Try.prog 15 #[.slice (some ⟨g, 0, none⟩) n cap, .int .i64 ((j : Int) + 1)] W fun e w' => e = .returned (.int .i64 (Cl B (j + 1) 0)) ∧ ∃ k, w' = W.drewN k := fun W h => by
                have := IH.out (j + 1) W (by omega) (by omega) h
                rw [show ((j + 1 : Nat) : Int) = (j : Int) + 1 from by omega] at this
                exact this
              have HI := hid IH'
              clear hnest hq hq1 hq2 h60 ho IH'
              rcases hmm with hm | ⟨m', hm, hm1, hm2, _⟩
              · have HE : Hid (Cl B i0 0 = -1) := by show _ = _; rw [HN.out, hm]; rfl
                have HM := hid hm
                clear hm HN
                go_wp2_with (first
                  | (go_at_call 20; refine (HZZ.out _ (by exact HC.out)).mono ?_; rintro e w' ⟨rfl, a, rfl⟩)
                  | (go_at_call 15; refine (HI.out _ (by exact HC.out)).mono ?_; rintro e w' ⟨rfl, b, rfl⟩; rw [HM.out]))
                go_ret
                exact ⟨ret_int HE.out.symm, q + a + b, rfl⟩
              · have HE : Hid (Cl B m' 0 = Cl B i0 0) := by show _ = _; rw [HN.out, hm, if_neg (by omega), Int.toNat_natCast]
                have hmn : m' ≤ n := by have := HL.out; omega
                have HM := hid hm
                clear hm HN hm2
                go_wp2_with (first
                  | (go_at_call 20; refine (HZZ.out _ (by exact HC.out)).mono ?_; rintro e w' ⟨rfl, a, rfl⟩)
                  | (go_at_call 15; refine (HI.out _ (by exact HC.out)).mono ?_; rintro e w' ⟨rfl, b, rfl⟩; rw [HM.out]))
                go_roundw
                case rel => exact ⟨m', q + a + b, by omega, by omega, by go_num, HE, rfl⟩
                case measure => simp [intOf]; omega
          · have t3 : ((c.toNat : Int) == 60) = false := num_false (d := 60) h60
            have ho := not_occ HB.out h60
            by_cases h62 : c = 62
            · have t4 : ((c.toNat : Int) == 62) = true := num_true (d := 62) h62
              have HE : Hid (Cl B i0 0 = ((j + 1 : Nat) : Int)) := by show _ = _; rw [← HJ.out]; exact Cl_end (tok_close (by rw [← h62]; exact HB.out) ho)
              clear hq hq1 hq2 h60 h62 ho
              go_wp2
              go_ret
              exact ⟨ret_int (by rw [HE.out]; omega), q, rfl⟩
            · have t4 : ((c.toNat : Int) == 62) = false := num_false (d := 62) h62
              have HE : Hid (Cl B (j + 1) 0 = Cl B i0 0) := by show _ = _; rw [← HJ.out]; exact (Cl_flat (tok_else HB.out hq1 hq2 h60 h62 ho) 0).symm
              clear hq hq1 hq2 h60 h62 ho
              go_wp2
              go_roundw
              case rel => exact ⟨j + 1, q, by omega, by omega, by go_num, HE, rfl⟩
              case measure => simp [intOf]; omega
      · have HE : Hid (Cl B i0 0 = -1) := by show _ = _; rw [← HJ.out]; exact Cl_none (tok_past (by rw [HL.out]; omega)) 0
        go_wp2
        go_ret
        exact ⟨ret_int HE.out.symm, q, rfl⟩
end Go.Proofs.Qxb6605365a
