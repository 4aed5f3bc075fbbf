/-
  THE PLAIN LAW of 'FnCostOfConcatSubadditive': the costs of a text in two parts.
-/
import Derived.Test.Qxb6605509aPlain
namespace Go.Proofs.Qxb6605509a
open Go

theorem cnt_congr {p q : Nat → Bool} (k : Nat) (h : ∀ i, i < k → p i = q i) : cnt p k = cnt q k := by
  induction k with
  | zero => rfl
  | succ k ih =>
    show cnt p k + (p k).toNat = cnt q k + (q k).toNat
    rw [ih fun i hi => h i (by omega), h k (by omega)]

theorem cnt_add (p : Nat → Bool) (a b : Nat) : cnt p (a + b) = cnt p a + cnt (fun i => p (a + i)) b := by
  induction b with
  | zero => rfl
  | succ b ih =>
    show cnt p (a + b) + (p (a + b)).toNat = cnt p a + (cnt (fun i => p (a + i)) b + (p (a + b)).toNat)
    rw [ih]; omega

theorem cnt_but {p q : Nat → Bool} (e k : Nat) (h : ∀ i, i < k → i ≠ e → p i = q i) (he : e < k → p e = true → q e = true) : cnt p k ≤ cnt q k ∧ cnt q k ≤ cnt p k + 1 := by
  induction k with
  | zero => exact ⟨Nat.le_refl 0, Nat.zero_le 1⟩
  | succ k ih =>
    show cnt p k + (p k).toNat ≤ cnt q k + (q k).toNat ∧ cnt q k + (q k).toNat ≤ cnt p k + (p k).toNat + 1
    by_cases hk : k = e
    · have hc : cnt p k = cnt q k := cnt_congr k fun i hi => h i (by omega) (by omega)
      subst hk
      have h1 := he (by omega)
      cases hp : p k <;> cases hq : q k <;> simp_all <;> omega
    · have := ih (fun i hi hne => h i (by omega) hne) (fun hlt => he (by omega))
      rw [h k (by omega) hk]
      omega

theorem mk_after (p : Option Int) (c : Int) (n : Option Int) (h : mk p c n = true) : mk p c none = true := by
  unfold mk at h ⊢
  split
  · rfl
  · split
    · rfl
    · split
      · rfl
      · rename_i h1 h2 h3
        rw [if_neg h1, if_neg h2, if_neg h3] at h
        exact h

theorem mk_before (p : Option Int) (c : Int) (n : Option Int) (h : mk p c n = true) : mk none c n = true := by
  unfold mk at h ⊢
  split
  · rfl
  · rename_i h1
    rw [if_neg h1] at h
    split
    · rename_i h2
      rw [if_pos h2] at h
      exact h
    · rename_i h2
      rw [if_neg h2] at h
      split
      · simp [beforeB]
      · rename_i h3
        rw [if_neg h3] at h
        split
        · rfl
        · rename_i h4
          rw [if_neg h4] at h
          exact h

theorem getD_left (a b : List Int) (i : Nat) (h : i < a.length) : (a ++ b).getD i 0 = a.getD i 0 := by
  rw [List.getD_eq_getElem?_getD, List.getD_eq_getElem?_getD, List.getElem?_append_left h]

theorem getD_right (a b : List Int) (i : Nat) : (a ++ b).getD (a.length + i) 0 = b.getD i 0 := by
  rw [List.getD_eq_getElem?_getD, List.getD_eq_getElem?_getD, List.getElem?_append_right (by omega), Nat.add_sub_cancel_left]

theorem prevOf_left (a b : List Int) (i : Nat) (h : i < a.length) : prevOf (a ++ b) i = prevOf a i := by
  unfold prevOf
  split
  · rfl
  · rw [List.getElem?_append_left (by omega)]

theorem get_right (a b : List Int) (i : Nat) : (a ++ b)[a.length + i]? = b[i]? := by
  rw [List.getElem?_append_right (by omega), Nat.add_sub_cancel_left]

theorem nodes_left (a b : List Int) : cnt (mark (a ++ b)) a.length ≤ nodes a a.length ∧ nodes a a.length ≤ cnt (mark (a ++ b)) a.length + 1 := by
  refine cnt_but (a.length - 1) a.length (fun i hi hne => ?_) (fun hlt h => ?_)
  · unfold mark
    rw [prevOf_left a b i hi, getD_left a b i hi, List.getElem?_append_left (by omega)]
  · unfold mark at h ⊢
    rw [prevOf_left a b _ hlt, getD_left a b _ hlt] at h
    have e : a[a.length - 1 + 1]? = none := List.getElem?_eq_none (by omega)
    rw [e]
    exact mk_after _ _ _ h

theorem nodes_right (a b : List Int) : cnt (fun i => mark (a ++ b) (a.length + i)) b.length ≤ nodes b b.length ∧ nodes b b.length ≤ cnt (fun i => mark (a ++ b) (a.length + i)) b.length + 1 := by
  refine cnt_but 0 b.length (fun i hi hne => ?_) (fun hlt h => ?_)
  · unfold mark
    rw [getD_right, show a.length + i + 1 = a.length + (i + 1) from by omega, get_right]
    congr 1
    unfold prevOf
    rw [if_neg (by omega), if_neg hne, show a.length + i - 1 = a.length + (i - 1) from by omega, get_right]
  · unfold mark at h ⊢
    have h' : mk (prevOf (a ++ b) (a.length + 0)) (b.getD 0 0) b[0 + 1]? = true := by
      rw [← getD_right a b 0, ← get_right a b (0 + 1)]
      exact h
    have e : prevOf b 0 = none := rfl
    rw [e]
    exact mk_before _ _ _ h'

theorem nodes_cat (a b : List Int) : nodes (a ++ b) (a ++ b).length ≤ nodes a a.length + nodes b b.length ∧ nodes a a.length + nodes b b.length ≤ nodes (a ++ b) (a ++ b).length + 2 := by
  have h1 := nodes_left a b
  have h2 := nodes_right a b
  have h3 : nodes (a ++ b) (a ++ b).length = cnt (mark (a ++ b)) a.length + cnt (fun i => mark (a ++ b) (a.length + i)) b.length := by
    rw [List.length_append]; exact cnt_add _ _ _
  omega

theorem cat_cnt (f : Int → Bool) (a b : List Int) : cnt (fun i => f ((a ++ b).getD i 0)) (a ++ b).length = cnt (fun i => f (a.getD i 0)) a.length + cnt (fun i => f (b.getD i 0)) b.length := by
  rw [List.length_append, cnt_add]
  congr 1
  · exact cnt_congr _ fun i hi => by rw [getD_left a b i hi]
  · exact cnt_congr _ fun i hi => by rw [getD_right]

theorem vals_cat (a b : List Int) : vals (a ++ b) (a ++ b).length = vals a a.length + vals b b.length := cat_cnt isVal a b
theorem highs_cat (a b : List Int) : highs (a ++ b) (a ++ b).length = highs a a.length + highs b b.length := cat_cnt (fun c => decide (128 ≤ c)) a b
theorem escs_cat (a b : List Int) : escs (a ++ b) (a ++ b).length = escs a a.length + escs b b.length := cat_cnt (fun c => decide (c = 92)) a b

theorem json_cat (a b : List Int) : costJ (a ++ b) + 320 = costJ a + costJ b := by
  unfold costJ
  rw [vals_cat, highs_cat, List.length_append]
  omega

/-- the seam loses none, one or two nodes -/
theorem yaml_cat (a b : List Int) : ∃ t : Nat, t ≤ 2 ∧ costY (a ++ b) + 1024 - costY a - costY b = -1024 * (t : Int) := by
  obtain ⟨h1, h2⟩ := nodes_cat a b
  refine ⟨nodes a a.length + nodes b b.length - nodes (a ++ b) (a ++ b).length, by omega, ?_⟩
  unfold costY
  rw [highs_cat, escs_cat]
  rw [List.length_append] at h1 h2 ⊢
  omega

theorem rem_ok (t : Nat) : ((-1024 * (t : Int)).tmod 1024 == 0) = true := by
  rw [show -1024 * (t : Int) = 1024 * (-(t : Int)) from by omega, Int.mul_tmod_right]
  rfl

theorem cost_bounds (a : List Int) (h : a.length ≤ 1048576) : 0 ≤ costJ a ∧ costJ a ≤ 1000000000 ∧ 0 ≤ costY a ∧ costY a ≤ 2000000000 := by
  have b1 : vals a a.length ≤ a.length := cnt_le _ _
  have b2 : nodes a a.length ≤ a.length := cnt_le _ _
  have b3 : highs a a.length ≤ a.length := cnt_le _ _
  have b4 : escs a a.length ≤ a.length := cnt_le _ _
  unfold costJ costY
  omega

end Go.Proofs.Qxb6605509a
