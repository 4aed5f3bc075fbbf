/-
  THE PLAIN LAW of 'FnValueEndSkipsQuotedStrings': what stands where in pre [qa,{qb:qa}] tail, and how the scanner's loop goes through it.
-/
import Derived.Test.Qxb6605386aVal
namespace Go.Proofs.Qxb6605386a
open Go

/-- the text that the law lays out -/
def lay (P A B T : List UInt8) : List UInt8 := P ++ ([91] ++ (quo A ++ ([44, 123] ++ (quo B ++ ([58] ++ (quo A ++ ([125, 93] ++ T)))))))

theorem get_mid (X : List UInt8) (c : UInt8) (Y : List UInt8) (i : Nat) (h : i = X.length) : (X ++ (c :: Y))[i]? = some c := by
  subst h
  rw [List.getElem?_append_right (Nat.le_refl _), Nat.sub_self]; rfl

theorem str_mid (X A Y D : List UInt8) (i e : Nat) (hD : D = X ++ (quo A ++ Y)) (hi : i = X.length) (he : e + 1 = i + (quo A).length) : StrAt D i e := by
  subst hD hi
  have := str_at X A Y
  rw [quo_length] at he
  rw [show e = X.length + (enc A).length + 1 from by omega]
  exact this

/-- what the law needs of the text -/
structure Laid (D : List UInt8) (s p1 p2 p3 p4 p5 p6 p7 p8 : Nat) : Prop where
  cs : D[s]? = some 91
  c2 : D[p2]? = some 44
  c3 : D[p3]? = some 123
  c5 : D[p5]? = some 58
  c7 : D[p7]? = some 125
  c8 : D[p8]? = some 93
  s1 : StrAt D p1 (p2 - 1)
  s4 : StrAt D p4 (p5 - 1)
  s6 : StrAt D p6 (p7 - 1)
  e1 : s + 1 = p1
  e2 : p1 < p2
  e3 : p2 + 1 = p3
  e4 : p3 + 1 = p4
  e5 : p4 < p5
  e6 : p5 + 1 = p6
  e7 : p6 < p7
  e8 : p7 + 1 = p8

theorem laid (P A B T : List UInt8) (lp la lb : Nat) (hp : P.length = lp) (ha : (quo A).length = la) (hb : (quo B).length = lb) :
    Laid (lay P A B T) lp (lp + 1) (lp + 1 + la) (lp + 1 + la + 1) (lp + 1 + la + 2) (lp + 1 + la + 2 + lb) (lp + 1 + la + 2 + lb + 1) (lp + 1 + la + 2 + lb + 1 + la) (lp + 1 + la + 2 + lb + 1 + la + 1) := by
  have la2 : 2 ≤ la := by rw [← ha, quo_length]; omega
  have lb2 : 2 ≤ lb := by rw [← hb, quo_length]; omega
  subst hp ha hb
  refine { cs := ?_, c2 := ?_, c3 := ?_, c5 := ?_, c7 := ?_, c8 := ?_, s1 := ?_, s4 := ?_, s6 := ?_, e1 := rfl, e2 := by omega, e3 := rfl, e4 := rfl, e5 := by omega, e6 := rfl, e7 := by omega, e8 := rfl }
  · exact get_mid P 91 _ _ rfl
  · have e : lay P A B T = (P ++ [91] ++ quo A) ++ (44 :: ([123] ++ (quo B ++ ([58] ++ (quo A ++ ([125, 93] ++ T)))))) := by unfold lay; simp only [List.append_assoc]; rfl
    rw [e]; exact get_mid _ 44 _ _ (by simp only [List.length_append, List.length_cons, List.length_nil])
  · have e : lay P A B T = (P ++ [91] ++ quo A ++ [44]) ++ (123 :: (quo B ++ ([58] ++ (quo A ++ ([125, 93] ++ T))))) := by unfold lay; simp only [List.append_assoc]; rfl
    rw [e]; exact get_mid _ 123 _ _ (by simp only [List.length_append, List.length_cons, List.length_nil])
  · have e : lay P A B T = (P ++ [91] ++ quo A ++ [44, 123] ++ quo B) ++ (58 :: (quo A ++ ([125, 93] ++ T))) := by unfold lay; simp only [List.append_assoc]; rfl
    rw [e]; exact get_mid _ 58 _ _ (by simp only [List.length_append, List.length_cons, List.length_nil])
  · have e : lay P A B T = (P ++ [91] ++ quo A ++ [44, 123] ++ quo B ++ [58] ++ quo A) ++ (125 :: ([93] ++ T)) := by unfold lay; simp only [List.append_assoc]; rfl
    rw [e]; exact get_mid _ 125 _ _ (by simp only [List.length_append, List.length_cons, List.length_nil])
  · have e : lay P A B T = (P ++ [91] ++ quo A ++ [44, 123] ++ quo B ++ [58] ++ quo A ++ [125]) ++ (93 :: T) := by unfold lay; simp only [List.append_assoc]; rfl
    rw [e]; exact get_mid _ 93 _ _ (by simp only [List.length_append, List.length_cons, List.length_nil])
  · exact str_mid (P ++ [91]) A ([44, 123] ++ (quo B ++ ([58] ++ (quo A ++ ([125, 93] ++ T))))) _ _ _ (by unfold lay; simp only [List.append_assoc]) (by simp only [List.length_append, List.length_cons, List.length_nil]) (by omega)
  · exact str_mid (P ++ [91] ++ quo A ++ [44, 123]) B ([58] ++ (quo A ++ ([125, 93] ++ T))) _ _ _ (by unfold lay; simp only [List.append_assoc]) (by simp only [List.length_append, List.length_cons, List.length_nil]) (by omega)
  · exact str_mid (P ++ [91] ++ quo A ++ [44, 123] ++ quo B ++ [58]) A ([125, 93] ++ T) _ _ _ (by unfold lay; simp only [List.append_assoc]) (by simp only [List.length_append, List.length_cons, List.length_nil]) (by omega)

def InvA (s p1 p2 p3 p4 p5 p6 p7 p8 i d : Nat) : Prop :=
  (i = s ∧ d = 0) ∨ (i = p1 ∧ d = 1) ∨ (i = p2 ∧ d = 1) ∨ (i = p3 ∧ d = 1) ∨ (i = p4 ∧ d = 2) ∨ (i = p5 ∧ d = 2) ∨ (i = p6 ∧ d = 2) ∨ (i = p7 ∧ d = 2) ∨ (i = p8 ∧ d = 1)
def InvO (p3 p4 p5 p6 p7 i d : Nat) : Prop :=
  (i = p3 ∧ d = 0) ∨ (i = p4 ∧ d = 1) ∨ (i = p5 ∧ d = 1) ∨ (i = p6 ∧ d = 1) ∨ (i = p7 ∧ d = 1)

theorem steps_array {D : List UInt8} {s p1 p2 p3 p4 p5 p6 p7 p8 : Nat} (L : Laid D s p1 p2 p3 p4 p5 p6 p7 p8) : Steps D (p8 + 1) (InvA s p1 p2 p3 p4 p5 p6 p7 p8) := by
  have e1 := L.e1; have e2 := L.e2; have e3 := L.e3; have e4 := L.e4; have e5 := L.e5; have e6 := L.e6; have e7 := L.e7; have e8 := L.e8
  intro i d h
  rcases h with ⟨rfl, rfl⟩ | ⟨rfl, rfl⟩ | ⟨rfl, rfl⟩ | ⟨rfl, rfl⟩ | ⟨rfl, rfl⟩ | ⟨rfl, rfl⟩ | ⟨rfl, rfl⟩ | ⟨rfl, rfl⟩ | ⟨rfl, rfl⟩
  · exact ⟨by omega, 91, L.cs, .inr (.inl ⟨.inr rfl, by unfold InvA; omega⟩)⟩
  · exact ⟨by omega, 34, L.s1.2.2.1, .inl ⟨rfl, _, L.s1, by unfold InvA; omega⟩⟩
  · exact ⟨by omega, 44, L.c2, .inr (.inr (.inr ⟨by decide, by decide, by decide, by decide, by decide, by unfold InvA; omega⟩))⟩
  · exact ⟨by omega, 123, L.c3, .inr (.inl ⟨.inl rfl, by unfold InvA; omega⟩)⟩
  · exact ⟨by omega, 34, L.s4.2.2.1, .inl ⟨rfl, _, L.s4, by unfold InvA; omega⟩⟩
  · exact ⟨by omega, 58, L.c5, .inr (.inr (.inr ⟨by decide, by decide, by decide, by decide, by decide, by unfold InvA; omega⟩))⟩
  · exact ⟨by omega, 34, L.s6.2.2.1, .inl ⟨rfl, _, L.s6, by unfold InvA; omega⟩⟩
  · exact ⟨by omega, 125, L.c7, .inr (.inr (.inl ⟨.inl rfl, .inr ⟨by omega, by unfold InvA; omega⟩⟩))⟩
  · exact ⟨by omega, 93, L.c8, .inr (.inr (.inl ⟨.inr rfl, .inl ⟨rfl, rfl⟩⟩))⟩

theorem steps_object {D : List UInt8} {s p1 p2 p3 p4 p5 p6 p7 p8 : Nat} (L : Laid D s p1 p2 p3 p4 p5 p6 p7 p8) : Steps D p8 (InvO p3 p4 p5 p6 p7) := by
  have e4 := L.e4; have e5 := L.e5; have e6 := L.e6; have e7 := L.e7; have e8 := L.e8
  intro i d h
  rcases h with ⟨rfl, rfl⟩ | ⟨rfl, rfl⟩ | ⟨rfl, rfl⟩ | ⟨rfl, rfl⟩ | ⟨rfl, rfl⟩
  · exact ⟨by omega, 123, L.c3, .inr (.inl ⟨.inl rfl, by unfold InvO; omega⟩)⟩
  · exact ⟨by omega, 34, L.s4.2.2.1, .inl ⟨rfl, _, L.s4, by unfold InvO; omega⟩⟩
  · exact ⟨by omega, 58, L.c5, .inr (.inr (.inr ⟨by decide, by decide, by decide, by decide, by decide, by unfold InvO; omega⟩))⟩
  · exact ⟨by omega, 34, L.s6.2.2.1, .inl ⟨rfl, _, L.s6, by unfold InvO; omega⟩⟩
  · exact ⟨by omega, 125, L.c7, .inr (.inr (.inl ⟨.inl rfl, .inl ⟨rfl, by omega⟩⟩))⟩

end Go.Proofs.Qxb6605386a
