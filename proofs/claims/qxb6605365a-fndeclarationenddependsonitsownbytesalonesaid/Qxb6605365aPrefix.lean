/-
  THE PLAIN LAW of 'FnDeclarationEndDependsOnItsOwnBytesAlone': an end in a prefix is an end of the whole, and an end of the whole is an end of its own bytes.
-/
import Derived.Test.Qxb6605365aLevel
namespace Go.Proofs.Qxb6605365a
open Go

theorem take_get (B : List UInt8) (n i : Nat) (h : i < n) : (B.take n)[i]? = B[i]? := List.getElem?_take_of_lt h

theorem occ_take (B sub : List UInt8) (n i : Nat) (h : i + sub.length ≤ n) : Lib.occAt (B.take n) sub i = Lib.occAt B sub i := by
  unfold Lib.occAt
  rw [List.drop_take, Bool.eq_iff_iff, List.isPrefixOf_iff_prefix, List.isPrefixOf_iff_prefix]
  constructor
  · intro hp
    exact hp.trans (List.take_prefix _ _)
  · intro hp
    rw [List.prefix_take_iff]
    exact ⟨hp, by omega⟩

theorem occ_take_le (B sub : List UInt8) (n i : Nat) (h : Lib.occAt (B.take n) sub i = true) : Lib.occAt B sub i = true := by
  unfold Lib.occAt at h ⊢
  rw [List.drop_take] at h
  rw [List.isPrefixOf_iff_prefix] at h ⊢
  exact h.trans (List.take_prefix _ _)

/-- a token of the whole that ends within the prefix is the prefix's -/
theorem tok_take {B : List UInt8} {i i' : Nat} {t : Int} (n : Nat) (h : tok B i = some (i', t)) (hn : i' ≤ n) : tok (B.take n) i = some (i', t) := by
  obtain ⟨h1, h2, _⟩ := tok_cases h
  have hlt : i < B.length := by omega
  have hL : (B.take n).length = min n B.length := List.length_take
  have hc := getD_some hlt
  obtain ⟨c, hcc⟩ : ∃ c, B.getD i 0 = c := ⟨_, rfl⟩
  rw [hcc] at hc
  have hc' : (B.take n)[i]? = some c := by rw [take_get B n i (by omega)]; exact hc
  by_cases hq : c = 34 ∨ c = 39
  · rw [tok_quote hc hq] at h
    rw [tok_quote hc' hq]
    obtain ⟨k, hk, e⟩ := Option.map_eq_some_iff.1 h
    obtain ⟨rfl, rfl⟩ := Prod.mk.inj e
    obtain ⟨k1, k2, k3, k4⟩ := ffirst_some hk
    have : fb (B.take n) c (i + 1) = some k := ffirst_mk k1 (by omega) (by unfold isB at k3 ⊢; rw [take_get B n k (by omega)]; exact k3) fun m m1 m2 => by
      have := k4 m m1 m2
      unfold isB at this ⊢
      rw [take_get B n m (by omega)]; exact this
    rw [this]; rfl
  · by_cases ho : Lib.occAt B oc i = true
    · rw [tok_comment hc hq ho] at h
      obtain ⟨k, hk, e⟩ := Option.map_eq_some_iff.1 h
      obtain ⟨rfl, rfl⟩ := Prod.mk.inj e
      obtain ⟨k1, k2, k3, k4⟩ := ffirst_some hk
      have e4 : oc.length = 4 := rfl
      have e3 : ec.length = 3 := rfl
      rw [tok_comment hc' hq (by rw [occ_take B oc n i (by omega)]; exact ho)]
      have : fr (B.take n) (i + 4) = some k := ffirst_mk k1 (by omega) (by rw [occ_take B ec n k (by omega)]; exact k3) fun m m1 m2 => by
        rw [occ_take B ec n m (by omega)]; exact k4 m m1 m2
      rw [this]; rfl
    · rw [Bool.not_eq_true] at ho
      have ho' : Lib.occAt (B.take n) oc i = false := by
        rw [Bool.eq_false_iff]; intro h'; rw [occ_take_le B oc n i h'] at ho; exact absurd ho (by decide)
      by_cases h60 : c = 60
      · subst h60
        rw [tok_open hc ho] at h
        rw [tok_open hc' ho']; exact h
      · by_cases h62 : c = 62
        · subst h62
          rw [tok_close hc ho] at h
          rw [tok_close hc' ho']; exact h
        · have g1 : ¬ c = 34 := fun e => hq (.inl e)
          have g2 : ¬ c = 39 := fun e => hq (.inr e)
          rw [tok_else hc g1 g2 h60 h62 ho] at h
          rw [tok_else hc' g1 g2 h60 h62 ho']; exact h

/-- a token of the prefix is the whole's, or it is the head of a comment that the prefix cuts -/
theorem tok_of_take {B : List UInt8} {i i' : Nat} {t : Int} (n : Nat) (h : tok (B.take n) i = some (i', t)) :
    tok B i = some (i', t) ∨ (Lib.occAt B oc i = true ∧ n < i + 4) := by
  obtain ⟨h1, h2, _⟩ := tok_cases h
  have hL : (B.take n).length = min n B.length := List.length_take
  have hlt : i < (B.take n).length := by omega
  have hc' := getD_some hlt
  obtain ⟨c, hcc⟩ : ∃ c, (B.take n).getD i 0 = c := ⟨_, rfl⟩
  rw [hcc] at hc'
  have hc : B[i]? = some c := by rw [← take_get B n i (by omega)]; exact hc'
  by_cases hq : c = 34 ∨ c = 39
  · left
    rw [tok_quote hc' hq] at h
    rw [tok_quote hc hq]
    obtain ⟨k, hk, e⟩ := Option.map_eq_some_iff.1 h
    obtain ⟨rfl, rfl⟩ := Prod.mk.inj e
    obtain ⟨k1, k2, k3, k4⟩ := ffirst_some hk
    have : fb B c (i + 1) = some k := ffirst_mk k1 (by omega) (by unfold isB at k3 ⊢; rw [← take_get B n k (by omega)]; exact k3) fun m m1 m2 => by
      have := k4 m m1 m2
      unfold isB at this ⊢
      rw [← take_get B n m (by omega)]; exact this
    rw [this]; rfl
  · by_cases ho' : Lib.occAt (B.take n) oc i = true
    · left
      have ho := occ_take_le B oc n i ho'
      rw [tok_comment hc' hq ho'] at h
      rw [tok_comment hc hq ho]
      obtain ⟨k, hk, e⟩ := Option.map_eq_some_iff.1 h
      obtain ⟨rfl, rfl⟩ := Prod.mk.inj e
      obtain ⟨k1, k2, k3, k4⟩ := ffirst_some hk
      have e3 : ec.length = 3 := rfl
      have kr := occ_room (sub := ec) (by decide) k3
      have : fr B (i + 4) = some k := ffirst_mk k1 (by omega) (occ_take_le B ec n k k3) fun m m1 m2 => by
        rw [← occ_take B ec n m (by omega)]; exact k4 m m1 m2
      rw [this]; rfl
    · rw [Bool.not_eq_true] at ho'
      by_cases ho : Lib.occAt B oc i = true
      · right
        refine ⟨ho, ?_⟩
        have e4 : oc.length = 4 := rfl
        rcases Nat.lt_or_ge n (i + 4) with h | h
        · exact h
        · rw [occ_take B oc n i (by omega), ho] at ho'
          exact absurd ho' (by decide)
      · left
        rw [Bool.not_eq_true] at ho
        by_cases h60 : c = 60
        · subst h60
          rw [tok_open hc' ho'] at h
          rw [tok_open hc ho]; exact h
        · by_cases h62 : c = 62
          · subst h62
            rw [tok_close hc' ho'] at h
            rw [tok_close hc ho]; exact h
          · have g1 : ¬ c = 34 := fun e => hq (.inl e)
            have g2 : ¬ c = 39 := fun e => hq (.inr e)
            rw [tok_else hc' g1 g2 h60 h62 ho'] at h
            rw [tok_else hc g1 g2 h60 h62 ho]; exact h

/-- an end of the whole is an end of its own bytes -/
theorem end_own (B : List UInt8) : ∀ (n i d r : Nat), B.length ≤ i + n → Cl B i d = r → Cl (B.take r) i d = r
  | 0, i, d, r, h, hr => by
    rw [Cl_none (tok_past (by omega))] at hr
    omega
  | n + 1, i, d, r, h, hr => by
    cases ht : tok B i with
    | none => rw [Cl_none ht] at hr; omega
    | some x =>
      obtain ⟨i', t⟩ := x
      obtain ⟨h1, h2, h3⟩ := tok_cases ht
      have key : ∀ d', Cl B i' d' = r → tok (B.take r) i = some (i', t) := fun d' hd' => by
        rcases Cl_is B i' d' with h0 | ⟨m, e1, e2, _⟩
        · omega
        · exact tok_take r ht (by omega)
      rcases h3 with rfl | ⟨rfl, e⟩ | ⟨rfl, e, hb⟩
      · rw [Cl_flat ht] at hr
        rw [Cl_flat (key d hr)]
        exact end_own B n i' d r (by omega) hr
      · rw [Cl_up ht] at hr
        rw [Cl_up (key (d + 1) hr)]
        exact end_own B n i' (d + 1) r (by omega) hr
      · cases d with
        | zero =>
          rw [Cl_end ht] at hr
          rw [Cl_end (tok_take r ht (by omega)), hr]
        | succ d =>
          rw [Cl_down ht] at hr
          rw [Cl_down (key d hr)]
          exact end_own B n i' d r (by omega) hr

/-- an end of a prefix is an end of the whole -/
theorem end_ext (B : List UInt8) (k : Nat) : ∀ (n i d r : Nat), (B.take k).length ≤ i + n → Cl (B.take k) i d = r → Cl B i d = r
  | 0, i, d, r, h, hr => by
    rw [Cl_none (tok_past (by omega))] at hr
    omega
  | n + 1, i, d, r, h, hr => by
    cases ht : tok (B.take k) i with
    | none => rw [Cl_none ht] at hr; omega
    | some x =>
      obtain ⟨i', t⟩ := x
      obtain ⟨h1, h2, h3⟩ := tok_cases ht
      rcases tok_of_take k ht with hB | ⟨ho, hk⟩
      · rcases h3 with rfl | ⟨rfl, e⟩ | ⟨rfl, e, hb⟩
        · rw [Cl_flat ht] at hr
          rw [Cl_flat hB]
          exact end_ext B k n i' d r (by omega) hr
        · rw [Cl_up ht] at hr
          rw [Cl_up hB]
          exact end_ext B k n i' (d + 1) r (by omega) hr
        · cases d with
          | zero =>
            rw [Cl_end ht] at hr
            rw [Cl_end hB, hr]
          | succ d =>
            rw [Cl_down ht] at hr
            rw [Cl_down hB]
            exact end_ext B k n i' d r (by omega) hr
      · exfalso
        have e4 : oc.length = 4 := rfl
        have hL : (B.take k).length = min k B.length := List.length_take
        rcases Cl_is (B.take k) i d with h0 | ⟨m, e1, e2, e3, e5⟩
        · omega
        · have hm : m - 1 < k := by omega
          rw [take_get B k (m - 1) hm] at e5
          have hr' := occ_room (sub := oc) (by decide) ho
          have := (occ_iff B oc i hr').1 ho (m - 1 - i) (by omega)
          rw [show i + (m - 1 - i) = m - 1 from by omega, e5] at this
          have h4 : m - 1 - i = 0 ∨ m - 1 - i = 1 ∨ m - 1 - i = 2 ∨ m - 1 - i = 3 := by omega
          rcases h4 with h | h | h | h <;> rw [h] at this <;> exact absurd this (by decide)

theorem own_any (B : List UInt8) (i d r : Nat) (h : Cl B i d = r) : Cl (B.take r) i d = r := end_own B B.length i d r (by omega) h
theorem ext_any (B : List UInt8) (k i d r : Nat) (h : Cl (B.take k) i d = r) : Cl B i d = r := end_ext B k (B.take k).length i d r (by omega) h

/-- where none is found, none is in a prefix -/
theorem none_take (B : List UInt8) (k : Nat) (h : Cl B 3 0 = -1) : Cl (B.take k) 3 0 = -1 := by
  rcases Cl_is (B.take k) 3 0 with h0 | ⟨m, e1, _⟩
  · exact h0
  · rw [ext_any B k 3 0 m e1] at h; omega

/-- no shorter prefix holds one -/
theorem short_take (B : List UInt8) (r : Nat) (h : Cl B 3 0 = r) : Cl (B.take (r - 1)) 3 0 = -1 := by
  rcases Cl_is (B.take (r - 1)) 3 0 with h0 | ⟨m, e1, _, e3, _⟩
  · exact h0
  · rw [ext_any B (r - 1) 3 0 m e1] at h
    have hL : (B.take (r - 1)).length = min (r - 1) B.length := List.length_take
    omega

/-- found again whatever is appended -/
theorem more_take (B C : List UInt8) (r : Nat) (h : Cl B 3 0 = r) (hr : r ≤ B.length) : Cl (B.take r ++ C) 3 0 = r := by
  have e : (B.take r ++ C).take r = B.take r := by
    rw [List.take_append_of_le_length (by rw [List.length_take]; omega), List.take_take, Nat.min_self]
  exact ext_any (B.take r ++ C) r 3 0 r (by rw [e]; exact own_any B 3 0 r h)

end Go.Proofs.Qxb6605365a
