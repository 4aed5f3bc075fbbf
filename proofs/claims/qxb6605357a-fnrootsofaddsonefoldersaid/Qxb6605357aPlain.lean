/-
  THE PLAIN PART: strings as byte arrays, no Go in sight. 'pat' is the text "/dists/"; 'sl s k' are the places below k at which s holds a slash, the greatest first.
-/
import Derived.Lib.CutLaws
namespace Go.Proofs.Qxb6605357a
open Go

def pat : ByteArray := ⟨#[47, 100, 105, 115, 116, 115, 47]⟩

/-- the places below k that hold a slash, the greatest first -/
def sl (s : ByteArray) : Nat → List Nat
  | 0 => []
  | k + 1 => if s.data.toList[k]? = some 47 then k :: sl s k else sl s k

theorem sl_succ_hit (s : ByteArray) (k : Nat) (h : s.data.toList[k]? = some 47) : sl s (k + 1) = k :: sl s k := by
  show (if s.data.toList[k]? = some 47 then k :: sl s k else sl s k) = _
  rw [if_pos h]
theorem sl_succ_miss (s : ByteArray) (k : Nat) (h : ¬ s.data.toList[k]? = some 47) : sl s (k + 1) = sl s k := by
  show (if s.data.toList[k]? = some 47 then k :: sl s k else sl s k) = _
  rw [if_neg h]

theorem sl_length_le (s : ByteArray) (k : Nat) : (sl s k).length ≤ k := by
  induction k with
  | zero => simp [sl]
  | succ k ih =>
    unfold sl
    split
    · simp; omega
    · omega

theorem sl_mem (s : ByteArray) (k : Nat) : ∀ i ∈ sl s k, i < k ∧ s.data.toList[i]? = some 47 := by
  induction k with
  | zero => simp [sl]
  | succ k ih =>
    intro i hi
    unfold sl at hi
    split at hi
    · rename_i h
      simp at hi
      rcases hi with rfl | hi
      · exact ⟨by omega, h⟩
      · have := ih i hi; exact ⟨by omega, this.2⟩
    · have := ih i hi; exact ⟨by omega, this.2⟩

/-- strictly descending -/
theorem sl_desc (s : ByteArray) (k : Nat) : (sl s k).Pairwise (· > ·) := by
  induction k with
  | zero => simp [sl]
  | succ k ih =>
    by_cases hk : s.data.toList[k]? = some 47
    · rw [sl_succ_hit s k hk]
      exact List.pairwise_cons.2 ⟨fun i hi => (sl_mem s k i hi).1, ih⟩
    · rw [sl_succ_miss s k hk]
      exact ih

theorem sl_next (s : ByteArray) (k j : Nat) (h : j + 1 < (sl s k).length) : (sl s k)[j + 1] < (sl s k)[j] :=
  List.pairwise_iff_getElem.1 (sl_desc s k) j (j + 1) (by omega) h (by omega)

/-- the roots where no pattern is found -/
def roots (s : ByteArray) : List ByteArray := s :: (sl s (s.size - 1)).map fun i => s.extract 0 (i + 1)

theorem roots_length (s : ByteArray) : (roots s).length = 1 + (sl s (s.size - 1)).length := by
  simp [roots]; omega

theorem byte_some (s : ByteArray) (i : Nat) (h : i < s.size) : s.data.toList[i]? = some s[i] := Lib.data_getElem? s i h

theorem slash_iff (s : ByteArray) (i : Nat) (h : i < s.size) : s.data.toList[i]? = some 47 ↔ ((s[i].toNat : Nat) : Int) = 47 := by
  rw [byte_some s i h]
  constructor
  · intro e
    have : s[i] = 47 := Option.some.inj e
    rw [this]; rfl
  · intro e
    have : s[i] = 47 := UInt8.toNat_inj.1 (by show s[i].toNat = 47; omega)
    rw [this]

theorem occ_step (s : ByteArray) (j : Nat) (hj : j + 7 ≤ s.size) :
    Lib.occAt s.data.toList pat.data.toList j = true ↔ ∀ k (hk : k < 7), s[j + k]'(by omega) = pat[k]'hk := by
  have hl : pat.data.toList.length = 7 := rfl
  rw [Lib.occAt_iff_take _ _ _ (by rw [hl, ← Lib.size_eq]; exact hj)]
  rw [beq_iff_eq, hl]
  constructor
  · intro e k hk
    have h1 : ((s.data.toList.drop j).take 7)[k]? = pat.data.toList[k]? := by rw [e]
    rw [List.getElem?_take_of_lt hk, List.getElem?_drop, byte_some s (j + k) (by omega), byte_some pat k hk] at h1
    exact Option.some.inj h1
  · intro h
    apply List.ext_getElem?
    intro k
    by_cases hk : k < 7
    · rw [List.getElem?_take_of_lt hk, List.getElem?_drop, byte_some s (j + k) (by omega), byte_some pat k hk, h k hk]
    · rw [List.getElem?_eq_none (by simp; omega), List.getElem?_eq_none (by rw [hl]; omega)]

theorem hit_at (s : ByteArray) (i : Nat) (h : Lib.indexB s pat = i) : i + 7 ≤ s.size ∧ Lib.occAt s.data.toList pat.data.toList i = true ∧ s.data.toList[i]? = some 47 := by
  have h' : Lib.index s.data.toList pat.data.toList = i := h
  rcases Lib.index_spec s.data.toList pat.data.toList with ⟨h1, _⟩ | ⟨i', h1, _, h3, _⟩
  · omega
  · have e : i' = i := by omega
    subst e
    have hr : i' + 7 ≤ s.size := by
      rcases Lib.occAt_room h3 with h4 | h4
      · rw [← Lib.size_eq] at h4; exact h4
      · exact absurd h4 (by decide)
    refine ⟨hr, h3, ?_⟩
    have h5 := (occ_step s i' hr).1 h3 0 (by omega)
    rw [byte_some s i' (by omega)]
    exact congrArg some h5

theorem piece_slash (s : ByteArray) (i : Nat) (h : s.data.toList[i]? = some 47) : s.extract 0 i ++ (⟨#[47]⟩ : ByteArray) = s.extract 0 (i + 1) := by
  have hl : i < s.data.toList.length := (List.getElem?_eq_some_iff.1 h).1
  have e : s.data.toList.take (i + 1) = s.data.toList.take i ++ [47] := by
    rw [List.take_succ_eq_append_getElem hl]
    rw [List.getElem?_eq_getElem hl] at h
    rw [Option.some.inj h]
  rw [Lib.extract_eq, Lib.extract_eq]
  simp only [List.drop_zero, Nat.sub_zero]
  rw [e]
  rfl

/-- element q of the roots, q from 1 on -/
theorem roots_at (s : ByteArray) (q : Nat) (h : q + 1 < (roots s).length) : ∃ r : ByteArray, (roots s)[q + 1]? = some r ∧ 0 < r.size ∧ r.size < s.size ∧ r.size < ((roots s)[q]?.getD ByteArray.empty).size ∧
    r = s.extract 0 r.size ∧ r.data.toList[r.size - 1]? = some 47 := by
  have hq : q < (sl s (s.size - 1)).length := by rw [roots_length] at h; omega
  have hm := sl_mem s (s.size - 1) _ (List.getElem_mem hq)
  have hsz : (s.extract 0 ((sl s (s.size - 1))[q] + 1)).size = (sl s (s.size - 1))[q] + 1 := by
    rw [ByteArray.size_extract]; omega
  refine ⟨s.extract 0 ((sl s (s.size - 1))[q] + 1), ?_, by omega, by omega, ?_, by rw [hsz], ?_⟩
  · simp [roots, hq]
  · rw [hsz]
    cases q with
    | zero => simp [roots]; have := hm.1; omega
    | succ q =>
      have hq' : q < (sl s (s.size - 1)).length := by omega
      have hm' := sl_mem s (s.size - 1) _ (List.getElem_mem hq')
      have hn := sl_next s (s.size - 1) q hq
      have e : (roots s)[q + 1]? = some (s.extract 0 ((sl s (s.size - 1))[q] + 1)) := by simp [roots, hq']
      rw [e, Option.getD_some, ByteArray.size_extract]
      omega
  · rw [hsz, Lib.extract_data]
    simp only [List.drop_zero, Nat.sub_zero, Nat.add_sub_cancel]
    rw [List.getElem?_take_of_lt (by omega)]
    exact hm.2

theorem pat_get (k : Nat) (hk : k < 7) : pat.data.toList[k]? = some (pat[k]'hk) := byte_some pat k hk

theorem dists_miss (s : ByteArray) (j k : Nat) (hj : j + 7 ≤ s.size) (hk : k < 7) (hjk : j + k < s.size)
    (h : ((((s[j + k]).toNat : Nat) : Int) != (((pat[k]'hk).toNat : Nat) : Int)) = true) : Lib.occAt s.data.toList pat.data.toList j = false := by
  rw [Bool.eq_false_iff]
  intro ho
  have := (occ_step s j hj).1 ho k hk
  rw [this] at h
  simp at h

theorem dists_step (s : ByteArray) (j k : Nat) (hk : k < 7) (hjk : j + k < s.size)
    (h : ((((s[j + k]).toNat : Nat) : Int) != (((pat[k]'hk).toNat : Nat) : Int)) = false) : s.data.toList[j + k]? = pat.data.toList[k]? := by
  rw [byte_some s (j + k) hjk, pat_get k hk]
  congr 1
  apply UInt8.toNat_inj.1
  simp at h
  omega

theorem dists_hit (s : ByteArray) (j : Nat) (hj : j + 7 ≤ s.size) (h : ∀ m, m < 7 → s.data.toList[j + m]? = pat.data.toList[m]?) : Lib.occAt s.data.toList pat.data.toList j = true := by
  refine (occ_step s j hj).2 fun k hk => ?_
  have := h k hk
  rw [byte_some s (j + k) (by omega), pat_get k hk] at this
  exact Option.some.inj this

end Go.Proofs.Qxb6605357a
