/-
  THE PLAIN PART: bytes as integers, no Go in sight: which places a text of bytes marks, and the two costs.
-/
import Derived.Lib.Bytealg
namespace Go.Proofs.Qxb6605509a
open Go

def blank (c : Int) : Bool := c == 32 || c == 9 || c == 13 || c == 10 || c == 0 || decide (128 ≤ c)
def indic (c : Int) : Bool := c == 44 || c == 91 || c == 93 || c == 123 || c == 125 || c == 63 || c == 58 || c == 34 || c == 39
def plainB (c : Int) : Bool := !blank c && !indic c
def afterB : Option Int → Bool
  | none => true
  | some x => blank x
def beforeB : Option Int → Bool
  | none => true
  | some x => !plainB x
def dotB : Option Int → Bool
  | none => true
  | some x => x == 10 || x == 13 || decide (128 ≤ x)
def opens (c : Int) : Bool := c == 44 || c == 91 || c == 123 || c == 63

/-- does a byte c between p and n mark a node? -/
def mk (p : Option Int) (c : Int) (n : Option Int) : Bool :=
  if opens c then true else if c == 45 then afterB n else if c == 58 then afterB n || beforeB p else if c == 46 then dotB p else false

def prevOf (zs : List Int) (i : Nat) : Option Int := if i = 0 then none else zs[i - 1]?

def mark (zs : List Int) (i : Nat) : Bool := mk (prevOf zs i) (zs.getD i 0) zs[i + 1]?

theorem mk_opens {c : Int} (h : opens c = true) (p n : Option Int) : mk p c n = true := by simp [mk, h]

/-- the indicators' text, and that the library's search in it is 'indic' -/
theorem indic_search (c : Int) (h0 : 0 ≤ c) (h1 : c < 128) :
    decide (0 ≤ Lib.indexByte (⟨#[44, 91, 93, 123, 125, 63, 58, 34, 39]⟩ : ByteArray).data.toList c.toNat.toUInt8) = indic c := by
  obtain ⟨k, rfl⟩ : ∃ k : Nat, c = (k : Int) := ⟨c.toNat, by omega⟩
  have hk : k < 128 := by omega
  have : ∀ k : Nat, k < 128 → decide (0 ≤ Lib.indexByte (⟨#[44, 91, 93, 123, 125, 63, 58, 34, 39]⟩ : ByteArray).data.toList (k : Int).toNat.toUInt8) = indic (k : Int) := by decide +kernel
  exact this k hk

/-- how many places below k satisfy p -/
def cnt (p : Nat → Bool) : Nat → Nat
  | 0 => 0
  | k + 1 => cnt p k + (p k).toNat

theorem cnt_le (p : Nat → Bool) (k : Nat) : cnt p k ≤ k := by
  induction k with
  | zero => exact Nat.le_refl _
  | succ k ih => have := Bool.toNat_le (p k); show cnt p k + (p k).toNat ≤ k + 1; omega

def isVal (c : Int) : Bool := decide (c = 44 ∨ c = 91 ∨ c = 123)
def vals (zs : List Int) : Nat → Nat := cnt fun i => isVal (zs.getD i 0)
def highs (zs : List Int) : Nat → Nat := cnt fun i => decide (128 ≤ zs.getD i 0)
def escs (zs : List Int) : Nat → Nat := cnt fun i => decide (zs.getD i 0 = 92)
def nodes (zs : List Int) : Nat → Nat := cnt (mark zs)

theorem vals_succ (zs : List Int) (k : Nat) : vals zs (k + 1) = vals zs k + (isVal (zs.getD k 0)).toNat := rfl
theorem highs_succ (zs : List Int) (k : Nat) : highs zs (k + 1) = highs zs k + (decide (128 ≤ zs.getD k 0)).toNat := rfl
theorem escs_succ (zs : List Int) (k : Nat) : escs zs (k + 1) = escs zs k + (decide (zs.getD k 0 = 92)).toNat := rfl
theorem nodes_succ (zs : List Int) (k : Nat) : nodes zs (k + 1) = nodes zs k + (mark zs k).toNat := rfl

theorem tn_pos {p : Prop} [Decidable p] (h : p) : (decide p).toNat = 1 := by simp [h]
theorem tn_neg {p : Prop} [Decidable p] (h : ¬ p) : (decide p).toNat = 0 := by simp [h]

/-- the two costs of a text -/
def costJ (zs : List Int) : Int := 8 * zs.length + 16 * highs zs zs.length + 320 * (vals zs zs.length + 1)
def costY (zs : List Int) : Int := 8 * zs.length + 16 * highs zs zs.length + 24 * escs zs zs.length + 1024 * (nodes zs zs.length + 1)

theorem mark_of (zs : List Int) (i : Nat) (h : i < zs.length) :
    mk (if i = 0 then none else some (zs.getD (i - 1) 0)) (zs.getD i 0) (if i + 1 < zs.length then some (zs.getD (i + 1) 0) else none) = mark zs i := by
  unfold mark prevOf
  congr 1
  · by_cases e : i = 0
    · rw [if_pos e, if_pos e]
    · rw [if_neg e, if_neg e, List.getElem?_eq_getElem (by omega), List.getD_eq_getElem?_getD, List.getElem?_eq_getElem (by omega)]
      rfl
  · by_cases e : i + 1 < zs.length
    · rw [if_pos e, List.getElem?_eq_getElem e, List.getD_eq_getElem?_getD, List.getElem?_eq_getElem e]
      rfl
    · rw [if_neg e, List.getElem?_eq_none (by omega)]

end Go.Proofs.Qxb6605509a
