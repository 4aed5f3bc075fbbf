/-
  THE WALK of 'declarationEnd'.
-/
import Derived.Test.Qxb6605365aLevel
import Derived.Test.Qxb6605365aShelf
import Derived.Lib.SlBytesConst
namespace Go.Proofs.Qxb6605365a
open Go.RowKit

def nums (B : List UInt8) : List Int := B.map fun b => (b.toNat : Int)

theorem nums_getD (B : List UInt8) (j : Nat) : (nums B).getD j 0 = bz B j := by
  unfold nums bz
  rw [List.getD_eq_getElem?_getD, List.getD_eq_getElem?_getD, List.getElem?_map]
  cases B[j]? <;> rfl
theorem nums_len (B : List UInt8) : (nums B).length = B.length := by simp [nums]
theorem bytesOf_nums (B : List UInt8) : Lib.bytesOf (nums B) = B := by
  unfold Lib.bytesOf nums
  rw [List.map_map]
  conv => rhs; rw [← List.map_id B]
  apply List.map_congr_left
  intro b _
  simp
theorem nums_range (B : List UInt8) : ∀ x ∈ nums B, 0 ≤ x ∧ x < 256 := by
  intro x hx
  obtain ⟨b, _, rfl⟩ := List.mem_map.1 hx
  have := b.toNat_lt
  omega
theorem bz_drop (B : List UInt8) (s i : Nat) : bz (B.drop s) i = bz B (s + i) := by
  unfold bz
  rw [List.getD_eq_getElem?_getD, List.getD_eq_getElem?_getD, List.getElem?_drop]

theorem At.later {w w1 : World} {g : Nat} {B : List UInt8} (h : At w g B) (hb : Below w.heap.size w w1) : At w1 g B := fun j hj => cell_later hb (h j hj)

/-- bytes.HasPrefix(b[j:], []byte("<!--")) -/
theorem has_prefix (g cap : Nat) (B : List UInt8) (n j h0 : Nat) (W : World) (hl : B.length = n) (hj : j ≤ n) (hcap : n ≤ cap) (hc : At W g B)
    (hk : W.heap[h0]? = some (.cells #[.int .u8 60, .int .u8 33, .int .u8 45, .int .u8 45] 5 (4, 5))) :
    Calls Try.prog 17 #[.slice (some ⟨g, j, none⟩) (n - j) (cap - j), .slice (some ⟨h0, 0, none⟩) 4 4] W fun e w' => e = .returned (.bool (Lib.occAt B oc j)) ∧ w' = W := by
  subst hl
  have h := Try.bytes_HasPrefix g j (B.length - j) (cap - j) h0 0 4 4 (nums (B.drop j)) (nums oc) W (by rw [nums_len, List.length_drop]) rfl (by omega)
    (fun i hi => by rw [nums_getD, bz_drop]; exact hc (j + i) (by omega))
    (fun i hi => by
      rw [nums_getD, Nat.zero_add, cell_of_row W h0 i _ 5 (4, 5) hk]
      have : i = 0 ∨ i = 1 ∨ i = 2 ∨ i = 3 := by omega
      rcases this with rfl | rfl | rfl | rfl <;> rfl)
  rw [bytesOf_nums, bytesOf_nums] at h
  exact h

/-- bytes.Index(b[s:], []byte("-->")), the cut at whatever address a where there is no byte -/
theorem index_at (a : Addr) (k cap : Nat) (C : List UInt8) (h0 : Nat) (m : Int) (W : World) (hl : C.length = k) (hk0 : k < 4294967281) (hcap : k ≤ cap) (hc : ∀ i, i < k → W.cell? (a.add i) = some (.int .u8 (bz C i)))
    (hk : W.heap[h0]? = some (.cells #[.int .u8 45, .int .u8 45, .int .u8 62] 5 (3, 4))) (hm : W.cell? ⟨0, 0, none⟩ = some (.int .i64 m)) :
    Calls Try.prog 18 #[.slice (some a) k cap, .slice (some ⟨h0, 0, none⟩) 3 3] W fun e w' => e = .returned (.int .i64 (Lib.index C ec)) ∧ ∃ q, w' = W.drewN q := by
  have h := Try.bytes_Index_at a ⟨h0, 0, none⟩ k cap 3 3 (nums C) (nums ec) m W (by rw [nums_len, hl]) rfl (nums_range C) (nums_range ec)
    (fun i hi => by rw [nums_getD]; exact hc i hi)
    (fun i hi => by
      have e : (⟨h0, 0, none⟩ : Addr).add i = ⟨h0, i, none⟩ := by unfold Addr.add; split <;> simp_all
      rw [nums_getD, e, cell_of_row W h0 i _ 5 (3, 4) hk]
      have : i = 0 ∨ i = 1 ∨ i = 2 := by omega
      rcases this with rfl | rfl | rfl <;> rfl)
    hcap hk0 (by omega) hm
  rw [bytesOf_nums, bytesOf_nums] at h
  exact h

/-- what is still to come: outside quotes, or inside the quotes Q -/
def R (B : List UInt8) (j : Nat) (Q : UInt8) (d : Nat) : Int :=
  if Q = 0 then Cl B j d else match fb B Q j with
    | none => -1
    | some k => Cl B (k + 1) d

theorem R_zero (B : List UInt8) (j d : Nat) : R B j 0 d = Cl B j d := rfl
theorem fb_step (B : List UInt8) (c : UInt8) (j : Nat) (h : j < B.length) : fb B c j = if isB B c j then some j else fb B c (j + 1) := by
  unfold fb
  rw [show B.length - j = (B.length - (j + 1)) + 1 from by omega]; rfl
theorem isB_of {B : List UInt8} {c : UInt8} {j : Nat} (h : B[j]? = some c) (Q : UInt8) : isB B Q j = decide (c = Q) := by
  unfold isB; rw [h]; by_cases e : c = Q <;> simp [e]
theorem R_hit {B : List UInt8} {j d : Nat} {Q : UInt8} (hQ : ¬ Q = 0) (h : B[j]? = some Q) : R B j Q d = Cl B (j + 1) d := by
  have hlt := (List.getElem?_eq_some_iff.1 h).1
  unfold R
  rw [if_neg hQ, fb_step B Q j hlt, isB_of h]
  simp
theorem R_miss {B : List UInt8} {j d : Nat} {c Q : UInt8} (hQ : ¬ Q = 0) (h : B[j]? = some c) (hc : ¬ c = Q) : R B j Q d = R B (j + 1) Q d := by
  have hlt := (List.getElem?_eq_some_iff.1 h).1
  unfold R
  rw [if_neg hQ, if_neg hQ, fb_step B Q j hlt, isB_of h, decide_eq_false hc]
  simp
theorem R_quote {B : List UInt8} {j d : Nat} {c : UInt8} (h : B[j]? = some c) (hc : c = 34 ∨ c = 39) : R B j 0 d = R B (j + 1) c d := by
  have h0 : ¬ c = 0 := by rcases hc with rfl | rfl <;> decide
  rw [R_zero]
  unfold R
  rw [if_neg h0]
  have ht := tok_quote h hc
  cases hf : fb B c (j + 1) with
  | none => rw [hf] at ht; exact Cl_none ht d
  | some k => rw [hf] at ht; exact Cl_flat ht d
theorem R_past {B : List UInt8} {j : Nat} (h : B.length ≤ j) (Q : UInt8) (d : Nat) : R B j Q d = -1 := by
  unfold R
  split
  · exact Cl_none (tok_past h) d
  · have : fb B Q j = none := by unfold fb; rw [show B.length - j = 0 from by omega]; rfl
    rw [this]

end Go.Proofs.Qxb6605365a
