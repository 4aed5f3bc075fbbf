/-
  THE WALK of 'stringEnd', where a string opens at i and closes at e.
-/
import Derived.Test.Qxb6605386aProg
import Derived.Test.Qxb6605386aPlain
import Derived.Test.Qxb6605386aShelf
import Derived.WalkKit
import Derived.WalkSpells
import Derived.Deep.QuietTactic
import Derived.BigQuiet
namespace Go.Proofs.Qxb6605386a
open Go.RowKit

/-- byte j as a number -/
def bz (B : List UInt8) (j : Nat) : Int := ((B.getD j 0).toNat : Int)
/-- the cells from ⟨g, 0⟩ on hold the bytes B -/
def At (w : World) (g : Nat) (B : List UInt8) : Prop := ∀ j, j < B.length → w.cell? ⟨g, j, none⟩ = some (.int .u8 (bz B j))
theorem hid {p : Prop} (h : p) : Hid p := h
theorem ret_int {k : IntKind} {a b : Int} (h : a = b) : Ending.returned (.int k a) = .returned (.int k b) := by rw [h]

def nums (B : List UInt8) : List Int := B.map fun b => (b.toNat : Int)
theorem nums_getD (B : List UInt8) (j : Nat) : (nums B).getD j 0 = bz B j := by
  unfold nums bz
  rw [List.getD_eq_getElem?_getD, List.getD_eq_getElem?_getD, List.getElem?_map]
  cases B[j]? <;> rfl
theorem nums_len (B : List UInt8) : (nums B).length = B.length := by simp [nums]
theorem bytesOf_nums (B : List UInt8) : Lib.bytesOf (nums B) = B := by
  unfold Lib.bytesOf nums
  rw [List.map_map]
  conv => rhs; rw [← List.map_id B]
  apply List.map_congr_left
  intro b _
  simp
theorem bz_drop (B : List UInt8) (s i : Nat) : bz (B.drop s) i = bz B (s + i) := by
  unfold bz
  rw [List.getD_eq_getElem?_getD, List.getD_eq_getElem?_getD, List.getElem?_drop]
theorem bz_some {B : List UInt8} {j : Nat} {c : UInt8} (h : B[j]? = some c) : bz B j = (c.toNat : Int) := by
  unfold bz; rw [List.getD_eq_getElem?_getD, h]; rfl

/-- bytes.IndexByte(data[p:], '"') finds the next quote -/
theorem next_quote (g cap : Nat) (D : List UInt8) (n p : Nat) (w : World) (hl : D.length = n) (hp : p ≤ n) (hc : At w g D) :
    Calls Try.prog 44 #[.slice (some ⟨g, p, none⟩) (n - p) (cap - p), .int .u8 34] w fun e w' => e = .returned (.int .i64 (Lib.indexByte (D.drop p) 34)) ∧ w' = w := by
  subst hl
  have h := Try.bytes_IndexByte_at ⟨g, p, none⟩ (D.length - p) (cap - p) (nums (D.drop p)) 34 w (by rw [nums_len, List.length_drop]) (fun i hi => by
    have e : (⟨g, p, none⟩ : Addr).add i = ⟨g, p + i, none⟩ := by unfold Addr.add; split <;> simp_all
    rw [nums_getD, e, bz_drop]
    exact hc (p + i) (by omega))
  rw [bytesOf_nums] at h
  exact h

/-- the first quote from p on, no later than e -/
theorem quote_from {D : List UInt8} {p e : Nat} (hpe : p ≤ e) (he : D[e]? = some 34) : ∃ o : Nat, p + o ≤ e ∧ D[p + o]? = some 34 ∧ Lib.indexByte (D.drop p) 34 = (o : Int) := by
  have hx : (D.drop p)[e - p]? = some 34 := by rw [List.getElem?_drop, show p + (e - p) = e from by omega]; exact he
  by_cases h1 : Lib.indexByte (D.drop p) 34 = -1
  · exact absurd hx (Lib.indexByte_none h1 (e - p))
  · have h0 : 0 ≤ Lib.indexByte (D.drop p) 34 := by
      have : ∀ l : List UInt8, -1 ≤ Lib.indexByte l 34 := by
        intro l
        induction l with
        | nil => decide
        | cons b l ih =>
          unfold Lib.indexByte
          split
          · decide
          · split
            · decide
            · omega
      have := this (D.drop p)
      omega
    obtain ⟨o, ho⟩ : ∃ o : Nat, Lib.indexByte (D.drop p) 34 = o := ⟨_, (Int.toNat_of_nonneg h0).symm⟩
    obtain ⟨g1, g2⟩ := Lib.indexByte_some ho
    rw [List.getElem?_drop] at g1
    have hle : o ≤ e - p := by
      rcases Nat.lt_or_ge (e - p) o with h | h
      · exact absurd hx (g2 (e - p) h)
      · exact h
    exact ⟨o, by omega, g1, ho⟩

set_option maxHeartbeats 1600000 in
theorem string_end (g cap : Nat) (D : List UInt8) (n i e : Nat) (w : World) (hl : D.length = n) (hn : n ≤ 100000000) (hcap : n ≤ cap) (hc : At w g D) (hs : StrAt D i e) :
    Calls Try.prog 41 #[.slice (some ⟨g, 0, none⟩) n cap, .int .i64 i] w fun r w' => r = .returned (.int .i64 ((e : Int) + 1)) ∧ w' = w := by
  obtain ⟨s1, s2, s3, s4, s5⟩ := hs
  have HC := hid hc
  have HL := hid hl
  have H3 := hid s3
  have H4 := hid s4
  have H5 := hid s5
  have hen : e < n := by omega
  clear hc hl s2 s3 s4 s5
  go_enter Try.func41, Try.ntmps41
  go_wp2
  go_loop [1] (fun x => ∃ p : Nat, i < p ∧ p ≤ e ∧ x = .int .i64 p) (fun x => n - (intOf x).toNat)
  case atStart => exact ⟨i + 1, by omega, by omega, by go_num⟩
  case round =>
    obtain ⟨p, hp1, hp2, rfl⟩ := hrel
    obtain ⟨o, q2, q3, q4⟩ := quote_from hp2 H4.out
    have HQ3 := hid q3
    have HQ4 := hid q4
    have HNQ := hid fun W h => next_quote g cap D n p W HL.out (by omega) h
    clear q3 q4
    go_wp2_with (go_at_call 44; refine (HNQ.out _ HC.out).mono ?_; rintro r w' ⟨rfl, hw⟩; rw [HQ4.out, hw])
    go_loop [6] (fun x => ∃ t : Nat, i < t ∧ t ≤ p + o ∧ x = .int .i64 t ∧ Hid (∀ j, t ≤ j → j < p + o → D[j]? = some 92)) (fun x => (intOf x).toNat)
    case atStart => exact ⟨p + o, by omega, by omega, by go_num, fun j h1 h2 => by omega⟩
    case round =>
      obtain ⟨t, ht1, ht2, rfl, HT⟩ := hrel
      have htl : t - 1 < D.length := by have := HL.out; omega
      have hct := HC.out (t - 1) htl
      obtain ⟨c, hc⟩ : ∃ c, D[t - 1]? = some c := ⟨_, List.getElem?_eq_getElem htl⟩
      rw [bz_some hc] at hct
      have HCC := hid hc
      clear hc htl
      by_cases h92 : c = 92
      · have hti : t - 1 ≠ i := fun e' => by
          have := HCC.out; rw [e', H3.out, h92] at this; exact absurd this (by decide)
        have t1 : ((c.toNat : Int) == 92) = true := by rw [h92]; rfl
        have HE : Hid (∀ j, t - 1 ≤ j → j < p + o → D[j]? = some 92) := fun j h1 h2 => by
          by_cases ej : j = t - 1
          · rw [ej, HCC.out, h92]
          · exact HT.out j (by omega) h2
        clear h92
        go_wp2
        go_round
        case rel => exact ⟨t - 1, by omega, by omega, by go_num, HE⟩
        case measure => simp [intOf]; omega
      · have t1 : ((c.toNat : Int) == 92) = false := by
          rw [beq_eq_false_iff_ne]; exact fun e' => h92 (UInt8.toNat_inj.1 (Int.ofNat.inj e'))
        have hiff := H5.out (p + o) t ht1 ht2 q2 HQ3.out HT.out (by rw [HCC.out]; exact fun e' => h92 (Option.some.inj e'))
        clear h92
        by_cases hqe : p + o = e
        · have hm : (p + o - t) % 2 = 0 := hiff.2 hqe
          have HQE := hid hqe
          clear hiff hqe
          go_wp2
          go_ret
          exact ⟨ret_int (by have := HQE.out; omega), rfl⟩
        · have hm : ¬ (p + o - t) % 2 = 0 := fun h => hqe (hiff.1 h)
          have hlt : p + o < e := by omega
          clear hiff hqe
          go_wp2
          go_round
          case rel => exact ⟨p + o + 1, by omega, by omega, by go_num⟩
          case measure => simp [intOf]; omega
end Go.Proofs.Qxb6605386a
