/-
  THE PLAIN PART: JSON strings as lists of bytes; no Go in sight.
  'enc A': the bytes A written between quotes; 'par D s k': is the run of backslashes that ends the k bytes from s on of odd length?
  'StrAt D i e': a string opens at i and its closing quote stands at e, told by the runs of backslashes.
-/
import Derived.Lib.IndexLaws
namespace Go.Proofs.Qxb6605386a
open Go

def hexd (v : UInt8) : UInt8 := if v < 10 then 48 + v else 87 + v
def encB (c : UInt8) : List UInt8 := if c = 34 ∨ c = 92 then [92, c] else if c < 32 then [92, 117, 48, 48, hexd (c / 16), hexd (c % 16)] else [c]
def enc : List UInt8 → List UInt8
  | [] => []
  | c :: A => encB c ++ enc A
def quo (A : List UInt8) : List UInt8 := 34 :: (enc A ++ [34])

theorem enc_append (A B : List UInt8) : enc (A ++ B) = enc A ++ enc B := by
  induction A with
  | nil => rfl
  | cons c A ih => show encB c ++ enc (A ++ B) = encB c ++ enc A ++ enc B; rw [ih, List.append_assoc]
theorem encB_length (c : UInt8) : 1 ≤ (encB c).length ∧ (encB c).length ≤ 6 := by
  unfold encB; split
  · simp
  · split <;> simp
theorem enc_length (A : List UInt8) : (enc A).length ≤ 6 * A.length := by
  induction A with
  | nil => exact Nat.le_refl _
  | cons c A ih =>
    have := encB_length c
    show (encB c ++ enc A).length ≤ 6 * (A.length + 1)
    rw [List.length_append]; omega
theorem quo_length (A : List UInt8) : (quo A).length = (enc A).length + 2 := by
  unfold quo; rw [List.length_cons, List.length_append]; rfl

/-- the parity of the run of backslashes at the end of the k bytes from s on -/
def par (D : List UInt8) (s : Nat) : Nat → Bool
  | 0 => false
  | k + 1 => if D[s + k]? = some 92 then !par D s k else false

theorem par_congr {D E : List UInt8} {s t k : Nat} (h : ∀ j, j < k → D[s + j]? = E[t + j]?) : par D s k = par E t k := by
  induction k with
  | zero => rfl
  | succ k ih =>
    show (if D[s + k]? = some 92 then !par D s k else false) = (if E[t + k]? = some 92 then !par E t k else false)
    rw [h k (by omega), ih fun j hj => h j (by omega)]

theorem par_shift {D : List UInt8} {s u : Nat} (h : par D s u = false) (k : Nat) : par D s (u + k) = par D (s + u) k := by
  induction k with
  | zero => exact h
  | succ k ih =>
    show (if D[s + (u + k)]? = some 92 then !par D s (u + k) else false) = (if D[s + u + k]? = some 92 then !par D (s + u) k else false)
    rw [ih, Nat.add_assoc]

/-- within one written byte: the run is even behind it, and odd before a quote in it -/
theorem unit_par (c : UInt8) : par (encB c) 0 (encB c).length = false ∧ ∀ u, u < (encB c).length → (encB c)[u]? = some 34 → par (encB c) 0 u = true := by
  have key : ∀ n : Fin 256, par (encB (UInt8.ofNat n)) 0 (encB (UInt8.ofNat n)).length = false ∧ ∀ u, u < (encB (UInt8.ofNat n)).length → (encB (UInt8.ofNat n))[u]? = some 34 → par (encB (UInt8.ofNat n)) 0 u = true := by decide +kernel
  have h := key ⟨c.toNat, c.toNat_lt⟩
  simp only [UInt8.ofNat_toNat] at h
  exact h

theorem enc_par (A : List UInt8) : par (enc A) 0 (enc A).length = false ∧ ∀ u, u < (enc A).length → (enc A)[u]? = some 34 → par (enc A) 0 u = true := by
  induction A with
  | nil => exact ⟨rfl, fun u hu => absurd hu (Nat.not_lt_zero _)⟩
  | cons c A ih =>
    obtain ⟨h1, h2⟩ := unit_par c
    have e : enc (c :: A) = encB c ++ enc A := rfl
    have hL : par (enc (c :: A)) 0 (encB c).length = false := by
      rw [← h1]
      exact par_congr fun j hj => by rw [e, Nat.zero_add, List.getElem?_append_left hj]
    have hR : ∀ k, par (enc (c :: A)) 0 ((encB c).length + k) = par (enc A) 0 k := fun k => by
      rw [par_shift hL k]
      exact par_congr fun j _ => by rw [e, Nat.zero_add, Nat.zero_add, List.getElem?_append_right (by omega), Nat.add_sub_cancel_left]
    refine ⟨?_, fun u hu hq => ?_⟩
    · rw [show (enc (c :: A)).length = (encB c).length + (enc A).length from by rw [e, List.length_append], hR]
      exact ih.1
    · by_cases hlt : u < (encB c).length
      · rw [e, List.getElem?_append_left hlt] at hq
        rw [← h2 u hlt hq]
        exact par_congr fun j hj => by rw [e, Nat.zero_add, List.getElem?_append_left (by omega)]
      · obtain ⟨k, rfl⟩ : ∃ k, u = (encB c).length + k := ⟨u - (encB c).length, by omega⟩
        rw [e, List.getElem?_append_right (by omega), Nat.add_sub_cancel_left] at hq
        rw [hR]
        have hk : k < (enc A).length := (List.getElem?_eq_some_iff.1 hq).1
        exact ih.2 k hk hq

/-- a run of backslashes from t to q, none before it: its length's parity -/
theorem par_run (D : List UInt8) (s t : Nat) (hst : s ≤ t) (h0 : t = s ∨ D[t - 1]? ≠ some 92) : ∀ k, (∀ j, t ≤ j → j < t + k → D[j]? = some 92) → par D s (t - s + k) = decide (k % 2 = 1)
  | 0, _ => by
    show par D s (t - s) = false
    by_cases e : t = s
    · rw [e, Nat.sub_self]; rfl
    · rw [show t - s = (t - s - 1) + 1 from by omega]
      show (if D[s + (t - s - 1)]? = some 92 then _ else false) = false
      rw [show s + (t - s - 1) = t - 1 from by omega, if_neg (h0.resolve_left e)]
  | k + 1, h => by
    have ih := par_run D s t hst h0 k fun j h1 h2 => h j h1 (by omega)
    show (if D[s + (t - s + k)]? = some 92 then !par D s (t - s + k) else false) = _
    rw [show s + (t - s + k) = t + k from by omega, h (t + k) (by omega) (by omega), if_pos rfl, ih]
    by_cases e : k % 2 = 1
    · rw [decide_eq_true e, decide_eq_false (by omega)]; rfl
    · rw [decide_eq_false e, decide_eq_true (by omega)]; rfl

/-- a string that opens at i closes at e -/
def StrAt (D : List UInt8) (i e : Nat) : Prop :=
  i < e ∧ e < D.length ∧ D[i]? = some 34 ∧ D[e]? = some 34 ∧
    ∀ q t, i < t → t ≤ q → q ≤ e → D[q]? = some 34 → (∀ j, t ≤ j → j < q → D[j]? = some 92) → D[t - 1]? ≠ some 92 → ((q - t) % 2 = 0 ↔ q = e)

theorem str_at (X A Y : List UInt8) : StrAt (X ++ (quo A ++ Y)) X.length (X.length + (enc A).length + 1) := by
  obtain ⟨h1, h2⟩ := enc_par A
  have gX : ∀ j, (X ++ (quo A ++ Y))[X.length + j]? = (quo A ++ Y)[j]? := fun j => by
    rw [List.getElem?_append_right (by omega), Nat.add_sub_cancel_left]
  have gQ : ∀ j, j < (enc A).length → (X ++ (quo A ++ Y))[X.length + 1 + j]? = (enc A)[j]? := fun j hj => by
    rw [Nat.add_assoc, gX, Nat.add_comm 1 j]
    show (34 :: (enc A ++ [34]) ++ Y)[j + 1]? = _
    rw [List.cons_append, List.getElem?_cons_succ, List.append_assoc, List.getElem?_append_left hj]
  have gE : (X ++ (quo A ++ Y))[X.length + (enc A).length + 1]? = some 34 := by
    rw [Nat.add_assoc, gX]
    show (34 :: (enc A ++ [34]) ++ Y)[(enc A).length + 1]? = _
    rw [List.cons_append, List.getElem?_cons_succ, List.append_assoc, List.getElem?_append_right (by omega), Nat.sub_self]
    rfl
  have hpar : ∀ k, k ≤ (enc A).length → par (X ++ (quo A ++ Y)) (X.length + 1) k = par (enc A) 0 k := fun k hk =>
    par_congr fun j hj => by rw [gQ j (by omega), Nat.zero_add]
  refine ⟨by omega, (List.getElem?_eq_some_iff.1 gE).1, by have := gX 0; rw [Nat.add_zero] at this; rw [this]; rfl, gE, fun q t ht htq hqe hq hrun hbef => ?_⟩
  have hp := par_run (X ++ (quo A ++ Y)) (X.length + 1) t (by omega) (.inr hbef) (q - t) (fun j j1 j2 => hrun j j1 (by omega))
  rw [show t - (X.length + 1) + (q - t) = q - (X.length + 1) from by omega, hpar _ (by omega)] at hp
  by_cases e : q = X.length + (enc A).length + 1
  · rw [e, show X.length + (enc A).length + 1 - (X.length + 1) = (enc A).length from by omega, h1] at hp
    have := of_decide_eq_false hp.symm
    omega
  · obtain ⟨u, rfl⟩ : ∃ u, q = X.length + 1 + u := ⟨q - (X.length + 1), by omega⟩
    rw [gQ u (by omega)] at hq
    rw [show X.length + 1 + u - (X.length + 1) = u from by omega, h2 u (by omega) hq] at hp
    have := of_decide_eq_true hp.symm
    omega

end Go.Proofs.Qxb6605386a
