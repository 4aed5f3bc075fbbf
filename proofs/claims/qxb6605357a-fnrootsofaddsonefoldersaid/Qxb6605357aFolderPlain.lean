/-
  THE PLAIN LAW of 'FnRootsOfAddsOneFolder': the roots of dir + seg + "/".
-/
import Derived.Test.Qxb6605357aPlain
namespace Go.Proofs.Qxb6605357a
open Go

/-- dir + seg + "/" -/
def long (d g : ByteArray) : ByteArray := d ++ g ++ (⟨#[47]⟩ : ByteArray)

theorem data_append (a b : ByteArray) : (a ++ b).data.toList = a.data.toList ++ b.data.toList := by
  simp

theorem long_data (d g : ByteArray) : (long d g).data.toList = d.data.toList ++ (g.data.toList ++ [47]) := by
  unfold long
  rw [data_append, data_append, List.append_assoc]

theorem long_size (d g : ByteArray) : (long d g).size = d.size + g.size + 1 := by
  rw [Lib.size_eq, Lib.size_eq, Lib.size_eq, long_data]
  simp only [List.length_append, List.length_cons, List.length_nil]
  omega

theorem sl_congr (a b : ByteArray) (k : Nat) (h : ∀ i, i < k → a.data.toList[i]? = b.data.toList[i]?) : sl a k = sl b k := by
  induction k with
  | zero => rfl
  | succ k ih =>
    have ih := ih fun i hi => h i (by omega)
    by_cases e : b.data.toList[k]? = some 47
    · rw [sl_succ_hit b k e, sl_succ_hit a k (by rw [h k (by omega)]; exact e), ih]
    · rw [sl_succ_miss b k e, sl_succ_miss a k (by rw [h k (by omega)]; exact e), ih]

theorem sl_skip (s : ByteArray) (a n : Nat) (h : ∀ i, i < n → s.data.toList[a + i]? ≠ some 47) : sl s (a + n) = sl s a := by
  induction n with
  | zero => rfl
  | succ n ih =>
    rw [← Nat.add_assoc, sl_succ_miss s (a + n) (h n (by omega))]
    exact ih fun i hi => h i (by omega)

theorem long_left (d g : ByteArray) (i : Nat) (h : i < d.size) : (long d g).data.toList[i]? = d.data.toList[i]? := by
  rw [long_data, List.getElem?_append_left (by rw [← Lib.size_eq]; exact h)]

theorem long_mid (d g : ByteArray) (i : Nat) (h : i < g.size) : (long d g).data.toList[d.size + i]? = g.data.toList[i]? := by
  rw [long_data, List.getElem?_append_right (by rw [← Lib.size_eq]; omega), List.getElem?_append_left (by rw [← Lib.size_eq, ← Lib.size_eq]; omega), ← Lib.size_eq]
  congr 1
  omega

theorem sl_long (d g : ByteArray) (hd : 0 < d.size) (hl : d.data.toList[d.size - 1]? = some 47) (hno : ∀ i, i < g.size → g.data.toList[i]? ≠ some 47) :
    sl (long d g) ((long d g).size - 1) = (d.size - 1) :: sl d (d.size - 1) := by
  rw [long_size, show d.size + g.size + 1 - 1 = d.size + g.size from by omega]
  rw [sl_skip _ _ _ fun i hi => by rw [long_mid d g i hi]; exact hno i hi]
  rw [sl_congr (long d g) d d.size fun i hi => long_left d g i hi]
  conv => lhs; rw [show d.size = (d.size - 1) + 1 from by omega]
  exact sl_succ_hit d (d.size - 1) hl

theorem extract_long (d g : ByteArray) (k : Nat) (h : k ≤ d.size) : (long d g).extract 0 k = d.extract 0 k := by
  rw [Lib.extract_eq, Lib.extract_eq, long_data]
  simp only [List.drop_zero, Nat.sub_zero]
  rw [List.take_append_of_le_length (by rw [← Lib.size_eq]; exact h)]

theorem extract_all (d : ByteArray) : d.extract 0 d.size = d := by
  rw [Lib.extract_eq]
  simp only [List.drop_zero, Nat.sub_zero]
  rw [List.take_of_length_le (by rw [Lib.size_eq]; exact Nat.le_refl _)]

theorem roots_long (d g : ByteArray) (hd : 0 < d.size) (hl : d.data.toList[d.size - 1]? = some 47) (hno : ∀ i, i < g.size → g.data.toList[i]? ≠ some 47) :
    roots (long d g) = long d g :: roots d := by
  have h1 := sl_long d g hd hl hno
  unfold roots
  rw [h1]
  simp only [List.map_cons]
  rw [show d.size - 1 + 1 = d.size from by omega, extract_long d g d.size (Nat.le_refl _), extract_all]
  congr 2
  apply List.map_congr_left
  intro i hi
  exact extract_long d g (i + 1) (by have := (sl_mem d _ i hi).1; omega)

theorem index_long (d g : ByteArray) (h : Lib.indexB (long d g) pat = -1) : Lib.indexB d pat = -1 := by
  have h' : Lib.index (long d g).data.toList pat.data.toList = -1 := h
  have hall : ∀ j, j ≤ (long d g).data.toList.length → Lib.occAt (long d g).data.toList pat.data.toList j = false := by
    rcases Lib.index_spec (long d g).data.toList pat.data.toList with ⟨_, h2⟩ | ⟨i, h1, _⟩
    · exact h2
    · omega
  show Lib.index d.data.toList pat.data.toList = -1
  refine Lib.index_none fun j hj => ?_
  have hj' : j ≤ (long d g).data.toList.length := by rw [long_data]; simp only [List.length_append]; omega
  have h1 := hall j hj'
  rw [Bool.eq_false_iff] at h1 ⊢
  intro ho
  apply h1
  unfold Lib.occAt at ho ⊢
  rw [long_data, List.drop_append_of_le_length hj]
  rw [List.isPrefixOf_iff_prefix] at ho ⊢
  exact ho.trans (List.prefix_append _ _)

end Go.Proofs.Qxb6605357a
