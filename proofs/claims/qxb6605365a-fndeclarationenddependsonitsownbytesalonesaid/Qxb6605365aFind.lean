/-
  THE WALKS of 'zzFindByte', 'zzAt', 'zzFindRun'.
-/
import Derived.Test.Qxb6605365aProg
import Derived.Test.Qxb6605365aPlain
import Derived.WalkKit
import Derived.WalkSpells
import Derived.Deep.QuietTactic
import Derived.BigQuiet
namespace Go.Proofs.Qxb6605365a
open Go.RowKit

/-- byte j as a number -/
def bz (B : List UInt8) (j : Nat) : Int := ((B.getD j 0).toNat : Int)
/-- the cells from ⟨g, 0⟩ on hold the bytes B -/
def At (w : World) (g : Nat) (B : List UInt8) : Prop := ∀ j, j < B.length → w.cell? ⟨g, j, none⟩ = some (.int .u8 (bz B j))
/-- an optional place as Go says it -/
def resF : Option Nat → Int
  | none => -1
  | some j => j

theorem hid {p : Prop} (h : p) : Hid p := h
theorem ret_bool {a b : Bool} (h : a = b) : Ending.returned (.bool a) = .returned (.bool b) := by rw [h]
theorem ret_int {k : IntKind} {a b : Int} (h : a = b) : Ending.returned (.int k a) = .returned (.int k b) := by rw [h]
theorem bel_drewN {B : Nat} {a w : World} (h : Below B a w) (n : Nat) : Below B a (w.drewN n) := h.trans ⟨rfl, rfl, rfl, Nat.le_refl _, fun _ _ => rfl⟩

theorem isB_iff (B : List UInt8) (c : UInt8) (j : Nat) (h : j < B.length) : isB B c j = (bz B j == (c.toNat : Int)) := by
  unfold isB bz
  rw [List.getD_eq_getElem?_getD, List.getElem?_eq_getElem h]
  rw [Bool.eq_iff_iff, beq_iff_eq, beq_iff_eq]
  constructor
  · intro e
    rw [Option.some.inj e]; rfl
  · intro e
    rw [UInt8.toNat_inj.1 (show B[j].toNat = c.toNat from Int.ofNat.inj e)]

set_option maxHeartbeats 400000 in
theorem find_byte (g cap : Nat) (B : List UInt8) (s : Nat) (c : UInt8) (w : World) (hn : B.length ≤ 1000000) (hs : s ≤ B.length) (hc : At w g B) :
    Calls Try.prog 19 #[.slice (some ⟨g, 0, none⟩) B.length cap, .int .i64 s, .int .u8 (c.toNat : Int)] w fun e w' => e = .returned (.int .i64 (resF (fb B c s))) ∧ w' = w := by
  obtain ⟨n, hl⟩ : ∃ n, B.length = n := ⟨_, rfl⟩
  have HL : Hid (B.length = n) := hl
  have HC := hid hc
  rw [hl] at hn hs ⊢
  obtain ⟨C, hC⟩ : ∃ C : Int, (c.toNat : Int) = C := ⟨_, rfl⟩
  have HCC := hid hC
  rw [hC]
  clear hl hc hC
  go_enter Try.func19, Try.ntmps19
  go_wp2
  go_loop [7] (fun i => ∃ j : Nat, j ≤ n ∧ i = .int .i64 j ∧ Hid (ffirst (isB B c) (n - j) j = fb B c s)) (fun i => n - (intOf i).toNat)
  case atStart => exact ⟨s, hs, rfl, by show _ = _; unfold fb; rw [HL.out]⟩
  case round =>
    obtain ⟨j, hj, rfl, HF⟩ := hrel
    by_cases hlt : j < n
    · have hcj := HC.out j (by rw [HL.out]; exact hlt)
      have hib := isB_iff B c j (by rw [HL.out]; exact hlt)
      rw [HCC.out] at hib
      obtain ⟨x, hx⟩ : ∃ x, bz B j = x := ⟨_, rfl⟩
      rw [hx] at hcj hib
      have HI := hid hib
      have HS : Hid (ffirst (isB B c) (n - j) j = if isB B c j then some j else ffirst (isB B c) (n - (j + 1)) (j + 1)) := by
        show _ = _
        rw [show n - j = (n - (j + 1)) + 1 from by omega]; rfl
      clear hx hib
      go_wp2
      · have ht : (x == C) = true := by assumption
        go_ret
        exact ⟨ret_int (by rw [← HF.out, HS.out, HI.out, ht]; rfl), rfl⟩
      · have ht : (x == C) = false := by assumption
        go_round
        case rel => exact ⟨j + 1, by omega, by go_num, by show _ = _; rw [← HF.out, HS.out, HI.out, ht]; rfl⟩
        case measure => simp [intOf]; omega
    · go_wp2
      go_ret
      exact ⟨ret_int (by rw [← HF.out, show n - j = 0 from by omega]; rfl), rfl⟩

/-- a run of bytes stands at i: byte by byte -/
theorem occ_iff (B run : List UInt8) (i : Nat) (h : i + run.length ≤ B.length) : Lib.occAt B run i = true ↔ ∀ m, m < run.length → B[i + m]? = run[m]? := by
  rw [Lib.occAt_iff_take _ _ _ h, beq_iff_eq]
  constructor
  · intro e m hm
    have : ((B.drop i).take run.length)[m]? = run[m]? := by rw [e]
    rw [List.getElem?_take_of_lt hm, List.getElem?_drop] at this
    exact this
  · intro h'
    apply List.ext_getElem?
    intro m
    by_cases hm : m < run.length
    · rw [List.getElem?_take_of_lt hm, List.getElem?_drop, h' m hm]
    · rw [List.getElem?_eq_none (by simp; omega), List.getElem?_eq_none (by omega)]

theorem byte_at (s : ByteArray) (k : Nat) (h : k < s.size) : s.data.toList[k]? = some s[k] := Lib.data_getElem? s k h

theorem same_iff (B : List UInt8) (run : ByteArray) (i k : Nat) (hi : i + k < B.length) (hk : k < run.size) : (bz B (i + k) != ((run[k].toNat : Nat) : Int)) = false ↔ B[i + k]? = run.data.toList[k]? := by
  rw [byte_at run k hk, List.getElem?_eq_getElem hi]
  unfold bz
  rw [List.getD_eq_getElem?_getD, List.getElem?_eq_getElem hi, bne_eq_false_iff_eq]
  constructor
  · intro e
    rw [UInt8.toNat_inj.1 (show B[i + k].toNat = run[k].toNat from Int.ofNat.inj e)]
  · intro e
    rw [Option.some.inj e]; rfl

set_option maxHeartbeats 400000 in
theorem zz_at (g cap : Nat) (B : List UInt8) (i : Nat) (run : ByteArray) (w : World) (hn : B.length ≤ 1000000) (hr : run.size ≤ 1000) (hi : i ≤ B.length) (hc : At w g B) :
    Calls Try.prog 20 #[.slice (some ⟨g, 0, none⟩) B.length cap, .int .i64 i, .string run] w fun e w' => e = .returned (.bool (Lib.occAt B run.data.toList i)) ∧ ∃ k, w' = w.drewN k := by
  obtain ⟨n, hl⟩ : ∃ n, B.length = n := ⟨_, rfl⟩
  have HL : Hid (B.length = n) := hl
  have HC := hid hc
  rw [hl] at hn hi ⊢
  clear hl hc
  by_cases hroom : i + run.size ≤ n
  · have HO : Hid (Lib.occAt B run.data.toList i = true ↔ ∀ m, m < run.data.toList.length → B[i + m]? = run.data.toList[m]?) := occ_iff B run.data.toList i (by rw [← Lib.size_eq, HL.out]; exact hroom)
    go_enter Try.func20, Try.ntmps20
    go_wp2
    go_loopw [7] (fun x wr => ∃ k q : Nat, k ≤ run.size ∧ x = .int .i64 k ∧ Hid (∀ m, m < k → B[i + m]? = run.data.toList[m]?) ∧ wr = w.drewN q) (fun x _ => run.size - (intOf x).toNat)
    case atStart => exact ⟨0, 0, by omega, rfl, fun m hm => absurd hm (by omega), rfl⟩
    case round =>
      obtain ⟨k, q, hk, rfl, HA, rfl⟩ := hrel
      by_cases hlt : k < run.size
      · have hcj := HC.out (i + k) (by rw [HL.out]; omega)
        have hs := same_iff B run i k (by rw [HL.out]; omega) hlt
        obtain ⟨x, hx⟩ : ∃ x, bz B (i + k) = x := ⟨_, rfl⟩
        rw [hx] at hcj hs
        have HS := hid hs
        have i1 : (0 : Int) ≤ (i : Int) + (k : Int) := by omega
        have i2 : (i : Int) + (k : Int) < (n : Int) := by omega
        have i3 : (0 : Int) ≤ (k : Int) := by omega
        have i4 : (k : Int) < (run.size : Int) := by omega
        clear hx hs
        go_wp2
        go_region
        go_wp2
        · have ht : (x != ((run[k].toNat : Nat) : Int)) = true := by assumption
          go_ret
          refine ⟨ret_bool ?_, q + 1, rfl⟩
          symm
          rw [Bool.eq_false_iff]
          intro ho
          have := HS.out.2 (HO.out.1 ho k (by rw [← Lib.size_eq]; exact hlt))
          rw [ht] at this
          exact absurd this (by decide)
        · have ht : (x != ((run[k].toNat : Nat) : Int)) = false := by assumption
          go_roundw
          case rel =>
            refine ⟨k + 1, q + 1, by omega, by go_num, fun m hm => ?_, rfl⟩
            by_cases e : m = k
            · rw [e]; exact HS.out.1 ht
            · exact HA.out m (by omega)
          case measure => simp [intOf]; omega
      · go_wp2
        go_ret
        exact ⟨ret_bool ((HO.out.2 fun m hm => HA.out m (by rw [← Lib.size_eq] at hm; omega)).symm), q, rfl⟩
  · go_enter Try.func20, Try.ntmps20
    go_wp2
    go_ret
    refine ⟨ret_bool ?_, 0, rfl⟩
    symm
    rw [Bool.eq_false_iff]
    intro ho
    have := occ_room (fun e => by have : run.size = 0 := by rw [Lib.size_eq, e]; rfl
                                  omega) ho
    rw [← Lib.size_eq, HL.out] at this
    omega

set_option maxHeartbeats 400000 in
theorem find_run (g cap : Nat) (B : List UInt8) (s : Nat) (w : World) (hn : B.length ≤ 1000000) (hs : s ≤ B.length) (hc : At w g B) :
    Calls Try.prog 21 #[.slice (some ⟨g, 0, none⟩) B.length cap, .int .i64 s, .string ⟨#[45, 45, 62]⟩] w fun e w' => e = .returned (.int .i64 (resF (fr B s))) ∧ ∃ k, w' = w.drewN k := by
  have HZ : Hid (∀ (i : Nat) (w : World), i ≤ B.length → At w g B → Calls Try.prog 20 #[.slice (some ⟨g, 0, none⟩) B.length cap, .int .i64 i, .string ⟨#[45, 45, 62]⟩] w fun e w' => e = .returned (.bool (Lib.occAt B ec i)) ∧ ∃ k, w' = w.drewN k) :=
    fun i w hi hc => zz_at g cap B i ⟨#[45, 45, 62]⟩ w hn (by decide) hi hc
  obtain ⟨n, hl⟩ : ∃ n, B.length = n := ⟨_, rfl⟩
  have HL : Hid (B.length = n) := hl
  have HC := hid hc
  rw [hl] at hn hs HZ ⊢
  clear hl hc
  go_enter Try.func21, Try.ntmps21
  go_wp2
  go_loopw [7] (fun i wr => ∃ j q : Nat, j ≤ n ∧ i = .int .i64 j ∧ Hid (ffirst (fun j => Lib.occAt B ec j) (n - j) j = fr B s) ∧ wr = w.drewN q) (fun i _ => n - (intOf i).toNat)
  case atStart => exact ⟨s, 0, hs, rfl, by show _ = _; unfold fr; rw [HL.out], rfl⟩
  case round =>
    obtain ⟨j, q, hj, rfl, HF, rfl⟩ := hrel
    by_cases hlt : j < n
    · obtain ⟨o, ho⟩ : ∃ o, Lib.occAt B ec j = o := ⟨_, rfl⟩
      have HO := hid ho
      have HS : Hid (ffirst (fun j => Lib.occAt B ec j) (n - j) j = if Lib.occAt B ec j then some j else ffirst (fun j => Lib.occAt B ec j) (n - (j + 1)) (j + 1)) := by
        show _ = _
        rw [show n - j = (n - (j + 1)) + 1 from by omega]; rfl
      clear ho
      go_wp2_with (go_at_call 20; refine (HZ.out j _ hj (by exact HC.out)).mono ?_; rintro e w' ⟨rfl, k, rfl⟩; rw [HO.out])
      · have ht : o = true := by assumption
        go_ret
        exact ⟨ret_int (by rw [← HF.out, HS.out, HO.out, ht]; rfl), q + k, rfl⟩
      · have ht : o = false := by assumption
        go_roundw
        case rel => exact ⟨j + 1, q + k, by omega, by go_num, by show _ = _; rw [← HF.out, HS.out, HO.out, ht]; rfl, rfl⟩
        case measure => simp [intOf]; omega
    · go_wp2
      go_ret
      exact ⟨ret_int (by rw [← HF.out, show n - j = 0 from by omega]; rfl), q, rfl⟩
end Go.Proofs.Qxb6605365a
