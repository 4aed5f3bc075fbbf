/-
  THE WALK of the law 'FnValueEndSkipsQuotedStrings'.
-/
import Derived.Test.Qxb6605386aQuoted
import Derived.Test.Qxb6605386aLayout
namespace Go.Proofs.Qxb6605386a
open Go.RowKit

theorem row_len {k : IntKind} {w : World} {a : Option Addr} {len cap : Nat} {zs : List Int} (h : IsRow k w a len cap zs) : len ≤ maxLen := by
  rcases h with ⟨_, rfl, _⟩ | ⟨x, h1, h2, h3, _⟩
  · exact Nat.zero_le _
  · omega

/-- the bytes of the first len numbers -/
def bytesIn (zs : List Int) (len : Nat) : List UInt8 := Lib.bytesOf (zs.take len)

theorem byte_of_wf {x : Int} (h : (Lit.int .u8 x).wf = true) : 0 ≤ x ∧ x < 256 := by
  have h1 : IntKind.u8.min = 0 := rfl
  have h2 : IntKind.u8.max = 255 := rfl
  simp only [Lit.wf, Bool.and_eq_true, decide_eq_true_eq] at h
  omega

theorem bz_in (zs : List Int) (len j : Nat) (hj : j < len) (hl : j < zs.length) (hw : ∀ n ∈ zs, (Lit.int .u8 n).wf = true) : bz (bytesIn zs len) j = zs.getD j 0 := by
  unfold bz bytesIn Lib.bytesOf
  rw [List.getD_eq_getElem?_getD, List.getElem?_map, List.getElem?_take_of_lt hj, List.getElem?_eq_getElem hl, List.getD_eq_getElem?_getD, List.getElem?_eq_getElem hl]
  have hb := byte_of_wf (hw zs[j] (List.getElem_mem hl))
  simp only [Option.map_some, Option.getD_some]
  rw [UInt8.toNat_ofNat_of_lt' (by show zs[j].toNat < 256; omega)]
  omega

theorem in_of_row {w : World} {a : Option Addr} {len cap : Nat} {zs : List Int} (h : IsRow .u8 w a len cap zs) : In w a len (bytesIn zs len) ∧ (a = none → cap = 0) := by
  rcases h with ⟨rfl, rfl, rfl, rfl⟩ | ⟨x, rfl, h1, h2, h3, h4, h5⟩
  · exact ⟨⟨rfl, .inl ⟨rfl, rfl⟩⟩, fun _ => rfl⟩
  · refine ⟨⟨by simp [bytesIn, Lib.bytesOf]; omega, .inr ⟨x, rfl, fun j hj => ?_⟩⟩, fun e => by cases e⟩
    rw [h4 j (by omega), bz_in zs len j hj (by omega) h5]

theorem In.later {w w1 : World} {a : Option Addr} {n : Nat} {A : List UInt8} (h : In w a n A) (hb : Below w.heap.size w w1) : In w1 a n A := by
  obtain ⟨h1, h2 | ⟨x, h2, h3⟩⟩ := h
  · exact ⟨h1, .inl h2⟩
  · exact ⟨h1, .inr ⟨x, h2, fun j hj => cell_later hb (h3 j hj)⟩⟩

theorem in_of_owns {w : World} {base g n cap : Nat} {D : List UInt8} (h : w.ownsRow base 5 1 (.slice (some ⟨g, 0, none⟩) n cap) n (cellsB D)) : In w (some ⟨g, 0, none⟩) n D := by
  have hl : D.length = n := by have := h.1; rw [cellsB_len, Nat.mul_one] at this; exact this
  refine ⟨hl, .inr ⟨_, rfl, fun j hj => ?_⟩⟩
  refine h.cells rfl j _ ?_
  unfold cellsB bz
  rw [List.getElem?_map, List.getD_eq_getElem?_getD, List.getElem?_eq_getElem (by omega)]; rfl

theorem at_of_owns {w : World} {base g n cap : Nat} {D : List UInt8} (h : w.ownsRow base 5 1 (.slice (some ⟨g, 0, none⟩) n cap) n (cellsB D)) : At w g D ∧ D.length = n ∧ n ≤ cap := by
  obtain ⟨hl, h2⟩ := in_of_owns h
  refine ⟨fun j hj => ?_, hl, ?_⟩
  · rcases h2 with ⟨e, _⟩ | ⟨x, e, hc⟩
    · cases e
    · obtain rfl := Option.some.inj e
      have := hc j (by omega)
      rwa [show (⟨g, 0, none⟩ : Addr).add j = ⟨g, j, none⟩ from by unfold Addr.add; split <;> simp_all] at this
  · obtain ⟨g', cap', e, _, hn, _⟩ := owns_form h (.inr (by intro e; cases e))
    cases e
    exact hn

set_option maxHeartbeats 800000 in
theorem skips_long (a0 : Option Addr) (l0 c0 : Nat) (a1 : Option Addr) (l1 c1 : Nat) (a2 : Option Addr) (l2 c2 : Nat) (a3 : Option Addr) (l3 c3 : Nat) (w : World)
    (m0 : l0 ≤ maxLen) (m1 : l1 ≤ maxLen) (m2 : l2 ≤ maxLen) (m3 : l3 ≤ maxLen) (h : 1048576 < l0 + l1 + l2 + l3) :
    Calls Try.prog 6 #[.slice a0 l0 c0, .slice a1 l1 c1, .slice a2 l2 c2, .slice a3 l3 c3] w fun e w' => e = .returned (.bool true) ∧ Below w.heap.size w w' := by
  unfold maxLen at m0 m1 m2 m3
  go_enter Try.func6, Try.ntmps6
  go_wp2
  all_goals (go_ret; exact ⟨rfl, Below.refl _ _⟩)

end Go.Proofs.Qxb6605386a
