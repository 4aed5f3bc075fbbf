/-
  THE PLAIN PART: where a declaration ends, on lists of bytes; no Go in sight.
  'tok B i': what stands at place i: where it ends, and whether it opens (1) or closes (-1) a level. 'cls', 'Cl': the end of the level, at depth d.
-/
import Derived.Lib.IndexMore
namespace Go.Proofs.Qxb6605365a
open Go

def oc : List UInt8 := [60, 33, 45, 45]
def ec : List UInt8 := [45, 45, 62]

/-- the first place from s on, among m, at which p holds -/
def ffirst (p : Nat → Bool) : Nat → Nat → Option Nat
  | 0, _ => none
  | m + 1, s => if p s then some s else ffirst p m (s + 1)

theorem ffirst_some {p : Nat → Bool} : ∀ {m s j : Nat}, ffirst p m s = some j → s ≤ j ∧ j < s + m ∧ p j = true ∧ ∀ k, s ≤ k → k < j → p k = false
  | 0, s, j, h => by simp [ffirst] at h
  | m + 1, s, j, h => by
    unfold ffirst at h
    split at h
    · rename_i hp
      obtain rfl := Option.some.inj h
      exact ⟨Nat.le_refl _, by omega, hp, fun k h1 h2 => by omega⟩
    · rename_i hp
      obtain ⟨h1, h2, h3, h4⟩ := ffirst_some h
      refine ⟨by omega, by omega, h3, fun k hk1 hk2 => ?_⟩
      by_cases e : k = s
      · subst e; simpa using hp
      · exact h4 k (by omega) hk2

theorem ffirst_none {p : Nat → Bool} : ∀ {m s : Nat}, ffirst p m s = none → ∀ k, s ≤ k → k < s + m → p k = false
  | 0, s, _, k, h1, h2 => by omega
  | m + 1, s, h, k, h1, h2 => by
    unfold ffirst at h
    split at h
    · simp at h
    · rename_i hp
      by_cases e : k = s
      · subst e; simpa using hp
      · exact ffirst_none h k (by omega) (by omega)

theorem ffirst_mk {p : Nat → Bool} : ∀ {m s j : Nat}, s ≤ j → j < s + m → p j = true → (∀ k, s ≤ k → k < j → p k = false) → ffirst p m s = some j
  | 0, s, j, h1, h2, _, _ => by omega
  | m + 1, s, j, h1, h2, h3, h4 => by
    unfold ffirst
    by_cases e : j = s
    · subst e; rw [if_pos h3]
    · rw [h4 s (Nat.le_refl _) (by omega)]
      exact ffirst_mk (by omega) (by omega) h3 fun k hk1 hk2 => h4 k (by omega) hk2

theorem ffirst_mk_none {p : Nat → Bool} : ∀ {m s : Nat}, (∀ k, s ≤ k → k < s + m → p k = false) → ffirst p m s = none
  | 0, _, _ => rfl
  | m + 1, s, h => by
    unfold ffirst
    rw [h s (Nat.le_refl _) (by omega)]
    exact ffirst_mk_none fun k h1 h2 => h k (by omega) (by omega)

def isB (B : List UInt8) (c : UInt8) (j : Nat) : Bool := B[j]? == some c
def fb (B : List UInt8) (c : UInt8) (s : Nat) : Option Nat := ffirst (isB B c) (B.length - s) s
def fr (B : List UInt8) (s : Nat) : Option Nat := ffirst (fun j => Lib.occAt B ec j) (B.length - s) s

def tok (B : List UInt8) (i : Nat) : Option (Nat × Int) :=
  match B[i]? with
  | none => none
  | some c =>
    if c = 34 ∨ c = 39 then (fb B c (i + 1)).map fun j => (j + 1, 0)
    else if Lib.occAt B oc i then (fr B (i + 4)).map fun j => (j + 3, 0)
    else if c = 60 then some (i + 1, 1) else if c = 62 then some (i + 1, -1) else some (i + 1, 0)

theorem occ_room {B sub : List UInt8} {i : Nat} (hs : sub ≠ []) (h : Lib.occAt B sub i = true) : i + sub.length ≤ B.length := by
  rcases Lib.occAt_room h with h | h
  · exact h
  · exact absurd h hs

theorem tok_lt {B : List UInt8} {i : Nat} {x : Nat × Int} (h : tok B i = some x) : i < B.length := by
  unfold tok at h
  split at h
  · simp at h
  · rename_i c hc
    exact (List.getElem?_eq_some_iff.1 hc).1

theorem tok_cases {B : List UInt8} {i : Nat} {i' : Nat} {t : Int} (h : tok B i = some (i', t)) :
    i < i' ∧ i' ≤ B.length ∧ ((t = 0) ∨ (t = 1 ∧ i' = i + 1) ∨ (t = -1 ∧ i' = i + 1 ∧ B[i]? = some 62)) := by
  have hlt := tok_lt h
  unfold tok at h
  rw [List.getElem?_eq_getElem hlt] at h
  simp only [] at h
  split at h
  · obtain ⟨j, hj, e⟩ := Option.map_eq_some_iff.1 h
    obtain ⟨rfl, rfl⟩ := Prod.mk.inj e
    obtain ⟨h1, h2, h3, h4⟩ := ffirst_some hj
    exact ⟨by omega, by omega, .inl rfl⟩
  · split at h
    · obtain ⟨j, hj, e⟩ := Option.map_eq_some_iff.1 h
      obtain ⟨rfl, rfl⟩ := Prod.mk.inj e
      obtain ⟨h1, h2, h3, h4⟩ := ffirst_some hj
      have := occ_room (sub := ec) (by decide) h3
      have e3 : ec.length = 3 := rfl
      exact ⟨by omega, by omega, .inl rfl⟩
    · split at h
      · obtain ⟨rfl, rfl⟩ := Prod.mk.inj (Option.some.inj h)
        exact ⟨by omega, by omega, .inr (.inl ⟨rfl, rfl⟩)⟩
      · split at h
        · rename_i e62
          obtain ⟨rfl, rfl⟩ := Prod.mk.inj (Option.some.inj h)
          exact ⟨by omega, by omega, .inr (.inr ⟨rfl, rfl, by rw [List.getElem?_eq_getElem hlt, e62]⟩)⟩
        · obtain ⟨rfl, rfl⟩ := Prod.mk.inj (Option.some.inj h)
          exact ⟨by omega, by omega, .inl rfl⟩

def cls (B : List UInt8) : Nat → Nat → Nat → Int
  | 0, _, _ => -1
  | f + 1, i, d =>
    match tok B i with
    | none => -1
    | some (i', t) => if t = 1 then cls B f i' (d + 1) else if t = -1 then (if d = 0 then (i' : Int) else cls B f i' (d - 1)) else cls B f i' d

theorem tok_past {B : List UInt8} {i : Nat} (h : B.length ≤ i) : tok B i = none := by
  unfold tok
  rw [List.getElem?_eq_none h]

theorem cls_past {B : List UInt8} {i : Nat} (h : B.length ≤ i) (f d : Nat) : cls B f i d = -1 := by
  cases f with
  | zero => rfl
  | succ f => unfold cls; rw [tok_past h]

theorem cls_fuel (B : List UInt8) : ∀ (f f' i d : Nat), B.length < i + f → B.length < i + f' → cls B f i d = cls B f' i d
  | 0, f', i, d, h1, _ => by rw [cls_past (by omega), cls_past (by omega)]
  | f + 1, 0, i, d, _, h2 => by rw [cls_past (by omega), cls_past (by omega)]
  | f + 1, f' + 1, i, d, h1, h2 => by
    unfold cls
    cases ht : tok B i with
    | none => rfl
    | some x =>
      obtain ⟨i', t⟩ := x
      have hc := tok_cases ht
      simp only []
      rw [cls_fuel B f f' i' (d + 1) (by omega) (by omega), cls_fuel B f f' i' (d - 1) (by omega) (by omega), cls_fuel B f f' i' d (by omega) (by omega)]

def Cl (B : List UInt8) (i d : Nat) : Int := cls B (B.length + 1) i d

theorem Cl_eq (B : List UInt8) (i d : Nat) : Cl B i d = match tok B i with
    | none => -1
    | some (i', t) => if t = 1 then Cl B i' (d + 1) else if t = -1 then (if d = 0 then (i' : Int) else Cl B i' (d - 1)) else Cl B i' d := by
  show cls B (B.length + 1) i d = _
  unfold cls
  cases ht : tok B i with
  | none => rfl
  | some x =>
    obtain ⟨i', t⟩ := x
    have hc := tok_cases ht
    simp only []
    unfold Cl
    rw [cls_fuel B B.length (B.length + 1) i' (d + 1) (by omega) (by omega), cls_fuel B B.length (B.length + 1) i' (d - 1) (by omega) (by omega), cls_fuel B B.length (B.length + 1) i' d (by omega) (by omega)]

theorem Cl_none {B : List UInt8} {i : Nat} (h : tok B i = none) (d : Nat) : Cl B i d = -1 := by rw [Cl_eq, h]
theorem Cl_flat {B : List UInt8} {i i' : Nat} (h : tok B i = some (i', 0)) (d : Nat) : Cl B i d = Cl B i' d := by rw [Cl_eq, h]; rfl
theorem Cl_up {B : List UInt8} {i i' : Nat} (h : tok B i = some (i', 1)) (d : Nat) : Cl B i d = Cl B i' (d + 1) := by rw [Cl_eq, h]; rfl
theorem Cl_end {B : List UInt8} {i i' : Nat} (h : tok B i = some (i', -1)) : Cl B i 0 = i' := by rw [Cl_eq, h]; rfl
theorem Cl_down {B : List UInt8} {i i' : Nat} (h : tok B i = some (i', -1)) (d : Nat) : Cl B i (d + 1) = Cl B i' d := by rw [Cl_eq, h]; rfl

/-- what an end is: none, or a place behind i whose byte before it is the closing one -/
theorem Cl_spec (B : List UInt8) : ∀ (n i d : Nat), B.length ≤ i + n → Cl B i d = -1 ∨ ∃ m : Nat, Cl B i d = m ∧ i < m ∧ m ≤ B.length ∧ B[m - 1]? = some 62
  | 0, i, d, h => .inl (Cl_none (tok_past (by omega)) d)
  | n + 1, i, d, h => by
    cases ht : tok B i with
    | none => exact .inl (Cl_none ht d)
    | some x =>
      obtain ⟨i', t⟩ := x
      obtain ⟨h1, h2, h3⟩ := tok_cases ht
      have ih := fun d => Cl_spec B n i' d (by omega)
      rcases h3 with rfl | ⟨rfl, e⟩ | ⟨rfl, e, hb⟩
      · rw [Cl_flat ht]
        rcases ih d with h | ⟨m, e1, e2, e3, e4⟩
        · exact .inl h
        · exact .inr ⟨m, e1, by omega, e3, e4⟩
      · rw [Cl_up ht]
        rcases ih (d + 1) with h | ⟨m, e1, e2, e3, e4⟩
        · exact .inl h
        · exact .inr ⟨m, e1, by omega, e3, e4⟩
      · cases d with
        | zero =>
          rw [Cl_end ht]
          exact .inr ⟨i', rfl, h1, h2, by rw [e, Nat.add_sub_cancel]; exact hb⟩
        | succ d =>
          rw [Cl_down ht]
          rcases ih d with h | ⟨m, e1, e2, e3, e4⟩
          · exact .inl h
          · exact .inr ⟨m, e1, by omega, e3, e4⟩

theorem Cl_is (B : List UInt8) (i d : Nat) : Cl B i d = -1 ∨ ∃ m : Nat, Cl B i d = m ∧ i < m ∧ m ≤ B.length ∧ B[m - 1]? = some 62 := Cl_spec B B.length i d (by omega)

/-- NESTING: an end at depth d + 1 is the end of the inner level, and then an end at depth d -/
theorem nest (B : List UInt8) : ∀ (n i d : Nat), B.length ≤ i + n → Cl B i (d + 1) = if Cl B i 0 < 0 then -1 else Cl B (Cl B i 0).toNat d
  | 0, i, d, h => by rw [Cl_none (tok_past (by omega)), Cl_none (tok_past (by omega))]; rfl
  | n + 1, i, d, h => by
    cases ht : tok B i with
    | none => rw [Cl_none ht, Cl_none ht]; rfl
    | some x =>
      obtain ⟨i', t⟩ := x
      obtain ⟨h1, h2, h3⟩ := tok_cases ht
      rcases h3 with rfl | ⟨rfl, e⟩ | ⟨rfl, e, hb⟩
      · rw [Cl_flat ht, Cl_flat ht]
        exact nest B n i' d (by omega)
      · rw [Cl_up ht, Cl_up ht]
        have a1 := nest B n i' (d + 1) (by omega)
        have a2 := nest B n i' 0 (by omega)
        rcases Cl_is B i' 0 with h0 | ⟨m, e1, e2, e3, e4⟩
        · rw [h0] at a1 a2
          rw [a1, a2]; rfl
        · rw [e1, if_neg (by omega), Int.toNat_natCast] at a1 a2
          rw [a1, a2]
          exact nest B n m d (by omega)
      · rw [Cl_down ht, Cl_end ht, if_neg (by omega), Int.toNat_natCast]

theorem nest_any (B : List UInt8) (i d : Nat) : Cl B i (d + 1) = if Cl B i 0 < 0 then -1 else Cl B (Cl B i 0).toNat d := nest B B.length i d (by omega)

/-- the library's search, in these words -/
theorem index_fr (B : List UInt8) (s : Nat) (_hs : s ≤ B.length) : Lib.index (B.drop s) ec = match fr B s with
    | none => -1
    | some j => (j : Int) - s := by
  have ho : ∀ j, Lib.occAt (B.drop s) ec j = Lib.occAt B ec (s + j) := fun j => by unfold Lib.occAt; rw [List.drop_drop]
  have hl : (B.drop s).length = B.length - s := List.length_drop
  rcases Lib.index_spec (B.drop s) ec with ⟨h1, h2⟩ | ⟨i, h1, h2, h3, h4⟩
  · have : fr B s = none := ffirst_mk_none fun k hk1 hk2 => by
      have := h2 (k - s) (by omega)
      rw [ho, show s + (k - s) = k from by omega] at this
      exact this
    rw [this, h1]
  · have hr := occ_room (sub := ec) (by decide) h3
    have e3 : ec.length = 3 := rfl
    have : fr B s = some (s + i) := ffirst_mk (by omega) (by omega) (by rw [← ho]; exact h3) fun k hk1 hk2 => by
      have := h4 (k - s) (by omega)
      rw [ho, show s + (k - s) = k from by omega] at this
      exact this
    rw [this, h1]
    simp only []
    omega

end Go.Proofs.Qxb6605365a
