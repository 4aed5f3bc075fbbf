/-
  THE WALK of 'valueEnd', under an abstract invariant of its loop.
-/
import Derived.Test.Qxb6605386aStr
namespace Go.Proofs.Qxb6605386a
open Go.RowKit

/-- WHAT A PLACE IN THE LOOP LEADS TO: 'Inv i d': the loop stands at place i in depth d; T: the answer. -/
def Steps (D : List UInt8) (T : Nat) (Inv : Nat → Nat → Prop) : Prop :=
  ∀ i d, Inv i d → d ≤ 10 ∧ ∃ c, D[i]? = some c ∧
    ((c = 34 ∧ ∃ e, StrAt D i e ∧ Inv (e + 1) d) ∨ ((c = 123 ∨ c = 91) ∧ Inv (i + 1) (d + 1)) ∨
     ((c = 125 ∨ c = 93) ∧ ((d = 1 ∧ T = i + 1) ∨ (2 ≤ d ∧ Inv (i + 1) (d - 1)))) ∨
     (c ≠ 34 ∧ c ≠ 123 ∧ c ≠ 91 ∧ c ≠ 125 ∧ c ≠ 93 ∧ Inv (i + 1) d))

theorem num_true {c d : UInt8} (h : c = d) : ((c.toNat : Int) == (d.toNat : Int)) = true := by rw [h]; simp
theorem num_false {c d : UInt8} (h : ¬ c = d) : ((c.toNat : Int) == (d.toNat : Int)) = false := by
  rw [beq_eq_false_iff_ne]
  exact fun e => h (UInt8.toNat_inj.1 (Int.ofNat.inj e))

set_option maxHeartbeats 400000 in
/-- a string -/
theorem value_string (g cap : Nat) (D : List UInt8) (n i e : Nat) (w : World) (hl : D.length = n) (hn : n ≤ 100000000) (hcap : n ≤ cap) (hc : At w g D) (hs : StrAt D i e) :
    Calls Try.prog 35 #[.slice (some ⟨g, 0, none⟩) n cap, .int .i64 i] w fun r w' => r = .returned (.int .i64 ((e : Int) + 1)) ∧ w' = w := by
  have HS := hid (string_end g cap D n i e w hl hn hcap hc hs)
  obtain ⟨s1, s2, s3, _⟩ := hs
  have hin : i < n := by omega
  have hci : w.cell? ⟨g, i, none⟩ = some (.int .u8 34) := by rw [hc i (by omega), bz_some s3]; rfl
  clear hc hl s1 s2 s3
  go_enter Try.func35, Try.ntmps35
  go_wp2_with (go_at_call 41; refine HS.out.mono ?_; rintro r w' ⟨rfl, hw⟩; rw [hw])
  go_ret
  exact ⟨rfl, rfl⟩

set_option maxHeartbeats 1600000 in
/-- an array or an object -/
theorem value_open (g cap : Nat) (D : List UInt8) (n i0 T : Nat) (Inv : Nat → Nat → Prop) (w : World) (hl : D.length = n) (hn : n ≤ 100000000) (hcap : n ≤ cap) (hc : At w g D)
    (hst : Steps D T Inv) (h0 : Inv i0 0) (hi0 : D[i0]? = some 91 ∨ D[i0]? = some 123) :
    Calls Try.prog 35 #[.slice (some ⟨g, 0, none⟩) n cap, .int .i64 i0] w fun r w' => r = .returned (.int .i64 (T : Int)) ∧ w' = w := by
  have hin : i0 < n := by
    rcases hi0 with h | h
    · have := (List.getElem?_eq_some_iff.1 h).1; omega
    · have := (List.getElem?_eq_some_iff.1 h).1; omega
  have HC := hid hc
  have HL := hid hl
  have HST := hid hst
  have HI0 := hid h0
  have HSE := hid fun i e hs => string_end g cap D n i e w hl hn hcap hc hs
  have hcell : ∃ c : UInt8, w.cell? ⟨g, i0, none⟩ = some (.int .u8 (c.toNat : Int)) ∧ ((c.toNat : Int) == 34) = false ∧ (((c.toNat : Int) == 123) = true ∨ (((c.toNat : Int) == 123) = false ∧ ((c.toNat : Int) == 91) = true)) := by
    rcases hi0 with h | h
    · exact ⟨91, by rw [hc i0 (by omega), bz_some h], rfl, .inr ⟨rfl, rfl⟩⟩
    · exact ⟨123, by rw [hc i0 (by omega), bz_some h], rfl, .inl rfl⟩
  obtain ⟨c0, hc0, k1, k2⟩ := hcell
  clear hc hl hst h0 hi0
  have hge : decide (n ≤ i0) = false := by rw [decide_eq_false_iff_not]; omega
  rcases k2 with k2 | ⟨k2, k3⟩
  all_goals
    go_enter Try.func35, Try.ntmps35
    go_wp2
    go_loop [1, 5] (fun x y => ∃ i d : Nat, x = .int .i64 i ∧ y = .int .i64 d ∧ Hid (Inv i d)) (fun x _ => n - (intOf x).toNat)
    case atStart => exact ⟨i0, 0, rfl, rfl, HI0⟩
    case round =>
      obtain ⟨i, d, rfl, rfl, HI⟩ := hrel
      obtain ⟨hd, c, hc, hcase⟩ := HST.out i d HI.out
      have hiD := (List.getElem?_eq_some_iff.1 hc).1
      have hi : i < n := by have := HL.out; omega
      have hci : w.cell? ⟨g, i, none⟩ = some (.int .u8 (c.toNat : Int)) := by rw [HC.out i hiD, bz_some hc]
      clear hc hiD hc0 k1 k2
      rcases hcase with ⟨rfl, e, hs, hI⟩ | ⟨hcc, hI⟩ | ⟨hcc, hI⟩ | ⟨n1, n2, n3, n4, n5, hI⟩
      · have HS := hid (HSE.out i e hs)
        have HN := hid hI
        have hen : i < e ∧ e < n := ⟨hs.1, by have := hs.2.1; have := HL.out; omega⟩
        obtain ⟨he1, he2⟩ := hen
        rw [show ((34 : UInt8).toNat : Int) = 34 from rfl] at hci
        clear hs hI
        go_wp2_with (go_at_call 41; refine HS.out.mono ?_; rintro r w' ⟨rfl, hw⟩; rw [hw])
        go_round
        case rel => exact ⟨e + 1, d, by go_num, rfl, HN⟩
        case measure => simp [intOf]; omega
      · have HN := hid hI
        have t1 : ((c.toNat : Int) == 34) = false := by rcases hcc with rfl | rfl <;> rfl
        have t2 : ((c.toNat : Int) == 123) = true ∨ (((c.toNat : Int) == 123) = false ∧ ((c.toNat : Int) == 91) = true) := by
          rcases hcc with rfl | rfl
          · exact .inl rfl
          · exact .inr ⟨rfl, rfl⟩
        clear hcc hI
        rcases t2 with t2 | ⟨t2, t3⟩
        all_goals
          go_wp2
          go_round
          case rel => exact ⟨i + 1, d + 1, by go_num, by go_num, HN⟩
          case measure => simp [intOf]; omega
      · have t1 : ((c.toNat : Int) == 34) = false := by rcases hcc with rfl | rfl <;> rfl
        have t2 : ((c.toNat : Int) == 123) = false := by rcases hcc with rfl | rfl <;> rfl
        have t3 : ((c.toNat : Int) == 91) = false := by rcases hcc with rfl | rfl <;> rfl
        have t4 : ((c.toNat : Int) == 125) = true ∨ (((c.toNat : Int) == 125) = false ∧ ((c.toNat : Int) == 93) = true) := by
          rcases hcc with rfl | rfl
          · exact .inl rfl
          · exact .inr ⟨rfl, rfl⟩
        clear hcc
        rcases hI with ⟨rfl, hT⟩ | ⟨hd2, hI⟩
        · have HT := hid hT
          clear hT
          rcases t4 with t4 | ⟨t4, t5⟩
          all_goals
            go_wp2
            go_ret
            exact ⟨ret_int (by rw [HT.out]; omega), rfl⟩
        · have HN := hid hI
          have e0 : (((d : Nat) : Int) - 1 == 0) = false := by rw [beq_eq_false_iff_ne]; omega
          clear hI
          rcases t4 with t4 | ⟨t4, t5⟩
          all_goals
            go_wp2
            go_round
            case rel => exact ⟨i + 1, d - 1, by go_num, by go_num, HN⟩
            case measure => simp [intOf]; omega
      · have HN := hid hI
        have t1 : ((c.toNat : Int) == 34) = false := num_false (d := 34) n1
        have t2 : ((c.toNat : Int) == 123) = false := num_false (d := 123) n2
        have t3 : ((c.toNat : Int) == 91) = false := num_false (d := 91) n3
        have t4 : ((c.toNat : Int) == 125) = false := num_false (d := 125) n4
        have t5 : ((c.toNat : Int) == 93) = false := num_false (d := 93) n5
        clear n1 n2 n3 n4 n5 hI
        go_wp2
        go_round
        case rel => exact ⟨i + 1, d, by go_num, rfl, HN⟩
        case measure => simp [intOf]; omega

/-- 'ZZValueEnd' hands on 'valueEnd' -/
theorem zz_string (g cap : Nat) (D : List UInt8) (n i e : Nat) (w : World) (hl : D.length = n) (hn : n ≤ 100000000) (hcap : n ≤ cap) (hc : At w g D) (hs : StrAt D i e) :
    Calls Try.prog 17 #[.slice (some ⟨g, 0, none⟩) n cap, .int .i64 i] w fun r w' => r = .returned (.int .i64 ((e : Int) + 1)) ∧ w' = w := by
  have HS := hid (value_string g cap D n i e w hl hn hcap hc hs)
  clear hc hs hl
  go_enter Try.func17, Try.ntmps17
  go_wp2_with (go_at_call 35; refine HS.out.mono ?_; rintro r w' ⟨rfl, hw⟩; rw [hw])
  go_ret
  exact ⟨rfl, rfl⟩

theorem zz_open (g cap : Nat) (D : List UInt8) (n i0 T : Nat) (Inv : Nat → Nat → Prop) (w : World) (hl : D.length = n) (hn : n ≤ 100000000) (hcap : n ≤ cap) (hc : At w g D)
    (hst : Steps D T Inv) (h0 : Inv i0 0) (hi0 : D[i0]? = some 91 ∨ D[i0]? = some 123) :
    Calls Try.prog 17 #[.slice (some ⟨g, 0, none⟩) n cap, .int .i64 i0] w fun r w' => r = .returned (.int .i64 (T : Int)) ∧ w' = w := by
  have HS := hid (value_open g cap D n i0 T Inv w hl hn hcap hc hst h0 hi0)
  clear hc hst hl h0 hi0
  go_enter Try.func17, Try.ntmps17
  go_wp2_with (go_at_call 35; refine HS.out.mono ?_; rintro r w' ⟨rfl, hw⟩; rw [hw])
  go_ret
  exact ⟨rfl, rfl⟩
end Go.Proofs.Qxb6605386a
