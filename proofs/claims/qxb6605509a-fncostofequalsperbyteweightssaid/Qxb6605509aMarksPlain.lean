/-
  THE PLAIN PART of 'zzMarks': the one-pass scanner: a mark is laid at once, or left pending till the next byte.
-/
import Derived.Test.Qxb6605509aPlain
namespace Go.Proofs.Qxb6605509a
open Go

/-- marked at once -/
def imm (p : Option Int) (c : Int) : Bool := opens c || (c == 58 && beforeB p) || (c == 46 && dotB p)
/-- left pending -/
def pend (p : Option Int) (c : Int) : Bool := c == 45 || (c == 58 && !beforeB p)

theorem mk_parts (p : Option Int) (c : Int) (n : Option Int) : mk p c n = (imm p c || (pend p c && afterB n)) := by
  unfold mk imm pend
  by_cases h1 : opens c = true
  · simp [h1]
  · rw [Bool.not_eq_true] at h1
    by_cases h2 : c = 45
    · subst h2; simp [h1]
    · by_cases h3 : c = 58
      · subst h3
        simp [h1]
        cases beforeB p <;> cases afterB n <;> rfl
      · by_cases h4 : c = 46
        · subst h4; simp [h1]
        · simp [h1, h2, h3, h4]

/-- what stands at place j when k bytes have been read -/
def mrk (zs : List Int) (k j : Nat) : Bool := if j + 1 < k then mark zs j else if j + 1 = k then imm (prevOf zs j) (zs.getD j 0) else false
/-- the same, the last one settled -/
def st (zs : List Int) (k j : Nat) : Bool := if j < k then mark zs j else false
def pendAt (zs : List Int) : Nat → Bool
  | 0 => false
  | q + 1 => pend (prevOf zs q) (zs.getD q 0)
def prevVal (zs : List Int) : Nat → Int
  | 0 => 0
  | q + 1 => zs.getD q 0

theorem prevOf_succ (zs : List Int) (q : Nat) (h : q < zs.length) : prevOf zs (q + 1) = some (zs.getD q 0) := by
  unfold prevOf
  rw [if_neg (by omega), Nat.add_sub_cancel, List.getD_eq_getElem?_getD, List.getElem?_eq_getElem h]
  rfl

theorem mark_mid (zs : List Int) (q : Nat) (h : q + 1 < zs.length) : mark zs q = (imm (prevOf zs q) (zs.getD q 0) || (pendAt zs (q + 1) && blank (zs.getD (q + 1) 0))) := by
  unfold mark
  rw [mk_parts, List.getElem?_eq_getElem h, List.getD_eq_getElem?_getD (i := q + 1), List.getElem?_eq_getElem h]
  rfl

theorem mark_last (zs : List Int) (q : Nat) (h : q + 1 = zs.length) : mark zs q = (imm (prevOf zs q) (zs.getD q 0) || pendAt zs (q + 1)) := by
  unfold mark
  rw [mk_parts, List.getElem?_eq_none (by omega)]
  simp [afterB, pendAt]

/-- a pending byte that the next one settles -/
theorem settle_yes (zs : List Int) (q : Nat) (h : q + 1 < zs.length) (hp : pendAt zs (q + 1) = true) (hb : blank (zs.getD (q + 1) 0) = true) (j : Nat) :
    (if j = q then true else mrk zs (q + 1) j) = st zs (q + 1) j := by
  by_cases e : j = q
  · subst e
    rw [if_pos rfl, st, if_pos (by omega), mark_mid zs j h, hp, hb]
    simp
  · rw [if_neg e]
    unfold mrk st
    by_cases e2 : j + 1 < q + 1
    · rw [if_pos e2, if_pos (by omega)]
    · rw [if_neg e2, if_neg (by omega), if_neg (by omega)]

theorem settle_no (zs : List Int) (q : Nat) (h : q + 1 < zs.length) (hp : (pendAt zs (q + 1) && blank (zs.getD (q + 1) 0)) = false) (j : Nat) : mrk zs (q + 1) j = st zs (q + 1) j := by
  by_cases e : j = q
  · subst e
    unfold mrk st
    rw [if_neg (by omega), if_pos rfl, if_pos (by omega), mark_mid zs j h, hp]
    simp
  · unfold mrk st
    by_cases e2 : j + 1 < q + 1
    · rw [if_pos e2, if_pos (by omega)]
    · rw [if_neg e2, if_neg (by omega), if_neg (by omega)]

theorem settle_zero (zs : List Int) (j : Nat) : mrk zs 0 j = st zs 0 j := by
  unfold mrk st
  rw [if_neg (by omega), if_neg (by omega), if_neg (by omega)]

theorem step_store (zs : List Int) (k : Nat) (v : Bool) (hv : v = imm (prevOf zs k) (zs.getD k 0)) (j : Nat) : (if j = k then v else st zs k j) = mrk zs (k + 1) j := by
  unfold mrk st
  by_cases e : j = k
  · subst e
    rw [if_pos rfl, if_neg (by omega), if_pos rfl, hv]
  · rw [if_neg e]
    by_cases e2 : j < k
    · rw [if_pos e2, if_pos (by omega)]
    · rw [if_neg e2, if_neg (by omega), if_neg (by omega)]

theorem step_none (zs : List Int) (k : Nat) (hv : imm (prevOf zs k) (zs.getD k 0) = false) (j : Nat) : st zs k j = mrk zs (k + 1) j := by
  rw [← step_store zs k false hv.symm j]
  by_cases e : j = k
  · subst e; rw [if_pos rfl, st, if_neg (by omega)]
  · rw [if_neg e]

/-- the end: a byte still pending is settled by the end of the text -/
theorem last_yes (zs : List Int) (q : Nat) (h : q + 1 = zs.length) (hp : pendAt zs (q + 1) = true) (j : Nat) (hj : j < zs.length) : (if j = q then true else mrk zs (q + 1) j) = mark zs j := by
  by_cases e : j = q
  · subst e
    rw [if_pos rfl, mark_last zs j h, hp]
    simp
  · rw [if_neg e]
    unfold mrk
    rw [if_pos (by omega)]

theorem last_no (zs : List Int) (q : Nat) (h : q + 1 = zs.length) (hp : pendAt zs (q + 1) = false) (j : Nat) (hj : j < zs.length) : mrk zs (q + 1) j = mark zs j := by
  by_cases e : j = q
  · subst e
    unfold mrk
    rw [if_neg (by omega), if_pos rfl, mark_last zs j h, hp]
    simp
  · unfold mrk
    rw [if_pos (by omega)]

end Go.Proofs.Qxb6605509a
