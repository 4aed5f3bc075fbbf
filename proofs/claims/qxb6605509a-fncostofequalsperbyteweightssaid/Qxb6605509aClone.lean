/-
  THE WALK of 'zzClone'.
-/
import Derived.Test.Qxb6605509aCost
import Derived.Deep.OwnRows
import Derived.Laws.CopyOwn
namespace Go.Proofs.Qxb6605509a
open Go.RowKit

/-- WHAT THE WALK IS TOLD OF A SLICE OF INTEGERS THAT CAME IN: it is nil; or it leads to a row of 'cap' cells, the numbers 'zs' (the first 'len' are its elements, the rest its spare room), each fitting its kind. -/
def IsRow (k : IntKind) (w : World) (a : Option Addr) (len cap : Nat) (zs : List Int) : Prop :=
  (a = none ∧ len = 0 ∧ cap = 0 ∧ zs = []) ∨
  ∃ x, a = some x ∧ len ≤ cap ∧ cap ≤ maxLen ∧ zs.length = cap ∧ (∀ i, i < zs.length → w.cell? (x.add i) = some (.int k (zs.getD i 0))) ∧ ∀ n ∈ zs, (Lit.int k n).wf = true

theorem info5 : (Try.prog.info? 5).map (fun i => (i.zero, i.size, i.bytes)) = some (some (.int .u8 0), 1, 1) := by kernel_rfl
theorem size5 : (Try.prog.info? 5).map (·.size) = some 1 := by kernel_rfl

theorem byte_of_wf {x : Int} (h : (Lit.int .u8 x).wf = true) : 0 ≤ x ∧ x < 256 := by
  have h1 : IntKind.u8.min = 0 := rfl
  have h2 : IntKind.u8.max = 255 := rfl
  simp only [Lit.wf, Bool.and_eq_true, decide_eq_true_eq] at h
  omega

theorem getD_range {zs : List Int} (h : ∀ n ∈ zs, 0 ≤ n ∧ n < 256) (j : Nat) : 0 ≤ zs.getD j 0 ∧ zs.getD j 0 < 256 := by
  rw [List.getD_eq_getElem?_getD]
  by_cases hj : j < zs.length
  · rw [List.getElem?_eq_getElem hj]
    exact h _ (List.getElem_mem hj)
  · rw [List.getElem?_eq_none (by omega)]
    decide

theorem cl_of_row {w : World} {g : Nat} {zs : List Int} (hr : ∀ j, 0 ≤ zs.getD j 0 ∧ zs.getD j 0 < 256) (h : w.heap[g]? = some (.cells (zs.map (Value.int .u8)).toArray 5 (0, 0))) :
    Cl w (some ⟨g, 0, none⟩) zs.length zs := by
  refine ⟨rfl, hr, .inr ⟨g, rfl, fun j hj => ?_⟩⟩
  rw [cell_of_row w g j _ 5 (0, 0) h]
  simp [hj]

theorem Cl.later {w w1 : World} {p : Option Addr} {n : Nat} {zs : List Int} (h : Cl w p n zs) (hb : Below w.heap.size w w1) : Cl w1 p n zs := by
  obtain ⟨h1, h2, h3 | ⟨g, h3, h4⟩⟩ := h
  · exact ⟨h1, h2, .inl h3⟩
  · exact ⟨h1, h2, .inr ⟨g, h3, fun j hj => cell_later hb (h4 j hj)⟩⟩

theorem hid {p : Prop} (h : p) : Hid p := h

theorem splice_all (n : Nat) (z : Value) (cs : List Value) (h : cs.length = n) : splice (madeCells #[z] n).toList 0 cs = cs := by
  unfold splice
  rw [List.drop_eq_nil_of_le (by simp [size_madeCells, h])]
  simp

set_option maxHeartbeats 400000 in
theorem clone_some (x : Addr) (len cap : Nat) (zs : List Int) (w : World) (hlc : len ≤ cap) (hz : zs.length = cap) (hl : len ≤ 1048576)
    (hc : ∀ i, i < zs.length → w.cell? (x.add i) = some (.int .u8 (zs.getD i 0))) (hw : ∀ n ∈ zs, (Lit.int .u8 n).wf = true) :
    Calls Try.prog 7 #[.slice (some x) len cap] w fun e w' => ∃ p c, e = .returned (.slice p len c) ∧ Cl w' p len (zs.take len) ∧ Below w.heap.size w w' := by
  have hmk := run_make_row' (P := Try.prog) 22 5 (.int .u8 0) 1 Try.underlying22 info5 rfl .i64 .i64 len (by omega) (by omega)
  have q22 := fun (w : World) (a : Option Addr) (n c n' c' : Nat) => Lib.run_eql_slice_nil (P := Try.prog) w 22 5 a n c n' c' Try.underlying22
  obtain ⟨cs, hcs⟩ : ∃ cs, cs = (zs.take len).map (Value.int .u8) := ⟨_, rfl⟩
  have hcl : cs.length = len := by rw [hcs]; simp; omega
  have h1 : ∀ v ∈ cs, v.oneCell' = true := by rw [hcs]; exact ints_oneCell _ _
  have hsrc : ∀ W, Below w.heap.size w W → ∀ j v, cs[j]? = some v → W.cell? (x.add j) = some v := by
    intro W hb j v hv
    rw [hcs, List.getElem?_map] at hv
    obtain ⟨n, hn, rfl⟩ := Option.map_eq_some_iff.1 hv
    have hj : j < (zs.take len).length := (List.getElem?_eq_some_iff.1 hn).1
    rw [List.length_take] at hj
    rw [List.getElem?_take_of_lt (by omega)] at hn
    refine cell_later hb ?_
    rw [hc j (by omega), List.getD_eq_getElem?_getD, hn]
    rfl
  have HC : Hid (cs = (zs.take len).map (Value.int .u8)) := hcs
  have HS := hid hsrc
  have H1 := hid h1
  have hrg : ∀ j, 0 ≤ (zs.take len).getD j 0 ∧ (zs.take len).getD j 0 < 256 := getD_range fun n hn => byte_of_wf (hw n (List.mem_of_mem_take hn))
  have HR := hid hrg
  have HL : Hid (cs.length = len) := hcl
  have HZ : Hid ((zs.take len).length = len) := by show _ = _; rw [List.length_take]; omega
  clear hcs hsrc h1 hc hw hcl hrg
  go_enter Try.func7, Try.ntmps7
  go_wp2_with (refine wpList_copy_splice rfl (.tmp 9) (.tmp 10) 22 22 rfl 5 Try.underlying22 size5 _ _ _ _ _ _ rfl rfl w.heap.size 0 (madeCells #[.int .u8 0] len).toList 5 ?c1 cs ?c2 ?c3 ?c4 ?c5 w.heap.size w ?c6 (Nat.le_refl _) ?_)
  case c1 => simpa using heap_alloc_new w _
  case c2 => rw [HL.out]; simp
  case c3 => exact fun _ => HS.out _ ((Below.refl _ _).alloc (Nat.le_refl _) _)
  case c4 => rw [HL.out]; simp [size_madeCells]
  case c5 => exact H1.out
  case c6 => exact (Below.refl _ _).alloc (Nat.le_refl _) _
  intro w2 HG hB
  go_wp2
  go_ret
  refine ⟨_, _, rfl, ?_, hB⟩
  have hg := HG.out
  rw [splice_all len _ cs HL.out, HC.out] at hg
  have := cl_of_row HR.out hg
  rw [HZ.out] at this
  exact this

set_option maxHeartbeats 400000 in
theorem clone_any (a : Option Addr) (len cap : Nat) (zs : List Int) (w : World) (h : IsRow .u8 w a len cap zs) (hl : len ≤ 1048576) :
    Calls Try.prog 7 #[.slice a len cap] w fun e w' => ∃ p c, e = .returned (.slice p len c) ∧ Cl w' p len (zs.take len) ∧ Below w.heap.size w w' := by
  rcases h with ⟨rfl, rfl, rfl, rfl⟩ | ⟨x, rfl, h1, h2, h3, h4, h5⟩
  · have q22 := fun (w : World) (a : Option Addr) (n c n' c' : Nat) => Lib.run_eql_slice_nil (P := Try.prog) w 22 5 a n c n' c' Try.underlying22
    go_enter Try.func7, Try.ntmps7
    go_wp2
    go_ret
    exact ⟨_, _, rfl, ⟨rfl, fun j => by simp, .inl rfl⟩, Below.refl _ _⟩
  · exact clone_some x len cap zs w h1 h3 hl h4 h5

end Go.Proofs.Qxb6605509a
