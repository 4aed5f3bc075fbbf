/-
  'ZZDeclarationEnd', 'zzDeclModel', 'zzCloneBytes': what each call gives.
-/
import Derived.Test.Qxb6605365aDeclWalk
import Derived.Deep.OwnRows
namespace Go.Proofs.Qxb6605365a
open Go.RowKit

/-- a slice of the bytes B that begins at a block's head, or that has no byte -/
def Cb (w : World) (p : Option Addr) (n cap : Nat) (B : List UInt8) : Prop :=
  B.length = n ∧ n ≤ cap ∧ (n = 0 ∨ ∃ g, p = some ⟨g, 0, none⟩ ∧ At w g B)

theorem Cb.later {w w1 : World} {p : Option Addr} {n cap : Nat} {B : List UInt8} (h : Cb w p n cap B) (hb : Below w.heap.size w w1) : Cb w1 p n cap B := by
  obtain ⟨h1, h2, h3 | ⟨g, h3, h4⟩⟩ := h
  · exact ⟨h1, h2, .inl h3⟩
  · exact ⟨h1, h2, .inr ⟨g, h3, h4.later hb⟩⟩

set_option maxHeartbeats 400000 in
theorem decl_none (p : Option Addr) (cap : Nat) (w : World) :
    Calls Try.prog 14 #[.slice p 0 cap] w fun e w' => e = .returned (.int .i64 (Cl [] 3 0)) ∧ Below w.heap.size w w' := by
  have HE : Hid (Cl [] 3 0 = -1) := Cl_none (tok_past (by decide)) 0
  go_enter Try.func14, Try.ntmps14
  go_wp2
  go_loop [3, 4, 5] (fun a b i => a = .int .u8 0 ∧ b = .int .i64 0 ∧ i = .int .i64 3) (fun _ _ _ => 0)
  case atStart => exact ⟨rfl, rfl, rfl⟩
  case round =>
    obtain ⟨rfl, rfl, rfl⟩ := hrel
    go_wp2
    go_ret
    exact ⟨ret_int HE.out.symm, Below.refl _ _⟩

theorem decl_any (p : Option Addr) (n cap : Nat) (B : List UInt8) (m : Int) (w : World) (h : Cb w p n cap B) (hn : n ≤ 1000000) (hm : w.cell? ⟨0, 0, none⟩ = some (.int .i64 m)) :
    Calls Try.prog 14 #[.slice p n cap] w fun e w' => e = .returned (.int .i64 (Cl B 3 0)) ∧ Below w.heap.size w w' := by
  obtain ⟨h1, h2, h3 | ⟨g, rfl, h4⟩⟩ := h
  · subst h3
    obtain rfl := List.eq_nil_of_length_eq_zero h1
    exact decl_none p cap w
  · exact decl_main g cap B n m w h1 hn h2 h4 hm

theorem zz_decl (p : Option Addr) (n cap : Nat) (B : List UInt8) (m : Int) (w : World) (h : Cb w p n cap B) (hn : n ≤ 1000000) (hm : w.cell? ⟨0, 0, none⟩ = some (.int .i64 m)) :
    Calls Try.prog 8 #[.slice p n cap] w fun e w' => e = .returned (.int .i64 (Cl B 3 0)) ∧ Below w.heap.size w w' := by
  have HD := hid (decl_any p n cap B m w h hn hm)
  clear h hm
  go_enter Try.func8, Try.ntmps8
  go_wp2_with (go_at_call 14; refine HD.out.mono ?_; rintro e w1 ⟨rfl, hb⟩)
  go_ret
  exact ⟨rfl, hb⟩

set_option maxHeartbeats 400000 in
theorem level_none (p : Option Addr) (cap : Nat) (w : World) :
    Calls Try.prog 15 #[.slice p 0 cap, .int .i64 3] w fun e w' => e = .returned (.int .i64 (Cl [] 3 0)) ∧ ∃ k, w' = w.drewN k := by
  have HE : Hid (Cl [] 3 0 = -1) := Cl_none (tok_past (by decide)) 0
  go_enter Try.func15, Try.ntmps15
  go_wp2
  go_loop [1] (fun i => i = .int .i64 3) (fun _ => 0)
  case atStart => rfl
  case round =>
    obtain rfl := hrel
    go_wp2
    go_ret
    exact ⟨ret_int HE.out.symm, 0, rfl⟩

theorem level_any (p : Option Addr) (n cap : Nat) (B : List UInt8) (w : World) (h : Cb w p n cap B) (hn : n ≤ 1000000) :
    Calls Try.prog 15 #[.slice p n cap, .int .i64 3] w fun e w' => e = .returned (.int .i64 (Cl B 3 0)) ∧ ∃ k, w' = w.drewN k := by
  obtain ⟨h1, h2, h3 | ⟨g, rfl, h4⟩⟩ := h
  · subst h3
    obtain rfl := List.eq_nil_of_length_eq_zero h1
    exact level_none p cap w
  · exact close_level g cap B n h1 hn n 3 w (by omega) (by omega) h4

theorem zz_model (p : Option Addr) (n cap : Nat) (B : List UInt8) (w : World) (h : Cb w p n cap B) (hn : n ≤ 1000000) :
    Calls Try.prog 9 #[.slice p n cap] w fun e w' => e = .returned (.int .i64 (Cl B 3 0)) ∧ ∃ k, w' = w.drewN k := by
  have HD := hid (level_any p n cap B w h hn)
  clear h
  go_enter Try.func9, Try.ntmps9
  go_wp2_with (go_at_call 15; refine HD.out.mono ?_; rintro e w1 ⟨rfl, k, rfl⟩)
  go_ret
  exact ⟨rfl, k, rfl⟩

/-- WHAT THE WALK IS TOLD OF A SLICE OF INTEGERS THAT CAME IN: it is nil; or it leads to a row of 'cap' cells, the numbers 'zs' (the first 'len' are its elements, the rest its spare room), each fitting its kind. -/
def IsRow (k : IntKind) (w : World) (a : Option Addr) (len cap : Nat) (zs : List Int) : Prop :=
  (a = none ∧ len = 0 ∧ cap = 0 ∧ zs = []) ∨
  ∃ x, a = some x ∧ len ≤ cap ∧ cap ≤ maxLen ∧ zs.length = cap ∧ (∀ i, i < zs.length → w.cell? (x.add i) = some (.int k (zs.getD i 0))) ∧ ∀ n ∈ zs, (Lit.int k n).wf = true

theorem row_len {k : IntKind} {w : World} {a : Option Addr} {len cap : Nat} {zs : List Int} (h : IsRow k w a len cap zs) : len ≤ maxLen := by
  rcases h with ⟨_, rfl, _⟩ | ⟨x, h1, h2, h3, _⟩
  · exact Nat.zero_le _
  · omega
theorem row_later {k : IntKind} {w w1 : World} {a : Option Addr} {len cap : Nat} {zs : List Int} (h : IsRow k w a len cap zs) (hb : Below w.heap.size w w1) : IsRow k w1 a len cap zs := by
  rcases h with h | ⟨x, h1, h2, h3, h4, h5, h6⟩
  · exact .inl h
  · exact .inr ⟨x, h1, h2, h3, h4, fun i hi => cell_later hb (h5 i hi), h6⟩

theorem info5 : (Try.prog.info? 5).map (fun i => (i.zero, i.size, i.bytes)) = some (some (.int .u8 0), 1, 1) := by kernel_rfl

/-- the bytes of the first len numbers -/
def bytesIn (zs : List Int) (len : Nat) : List UInt8 := Lib.bytesOf (zs.take len)

theorem byte_of_wf {x : Int} (h : (Lit.int .u8 x).wf = true) : 0 ≤ x ∧ x < 256 := by
  have h1 : IntKind.u8.min = 0 := rfl
  have h2 : IntKind.u8.max = 255 := rfl
  simp only [Lit.wf, Bool.and_eq_true, decide_eq_true_eq] at h
  omega

theorem bz_in (zs : List Int) (len j : Nat) (hj : j < len) (hl : j < zs.length) (hw : ∀ n ∈ zs, (Lit.int .u8 n).wf = true) : bz (bytesIn zs len) j = zs.getD j 0 := by
  unfold bz bytesIn Lib.bytesOf
  rw [List.getD_eq_getElem?_getD, List.getElem?_map, List.getElem?_take_of_lt hj, List.getElem?_eq_getElem hl, List.getD_eq_getElem?_getD, List.getElem?_eq_getElem hl]
  have hb := byte_of_wf (hw zs[j] (List.getElem_mem hl))
  simp only [Option.map_some, Option.getD_some]
  rw [UInt8.toNat_ofNat_of_lt' (by show zs[j].toNat < 256; omega)]
  omega

set_option maxHeartbeats 800000 in
theorem clone_some (x : Addr) (len cap : Nat) (zs : List Int) (w : World) (hlc : len ≤ cap) (hz : zs.length = cap) (hl : len ≤ 1048576)
    (hc : ∀ i, i < zs.length → w.cell? (x.add i) = some (.int .u8 (zs.getD i 0))) (hw : ∀ n ∈ zs, (Lit.int .u8 n).wf = true) :
    Calls Try.prog 7 #[.slice (some x) len cap] w fun e w' => ∃ p, e = .returned (.slice p len len) ∧ Cb w' p len len (bytesIn zs len) ∧ Below w.heap.size w w' := by
  have hmk := run_make_row' (P := Try.prog) 22 5 (.int .u8 0) 1 Try.underlying22 info5 rfl .i64 .i64 len (by omega) (by omega)
  have q22 := fun (w : World) (a : Option Addr) (n c n' c' : Nat) => Lib.run_eql_slice_nil (P := Try.prog) w 22 5 a n c n' c' Try.underlying22
  have HC := hid hc
  have HW := hid hw
  have HZ := hid hz
  clear hc hw hz
  go_enter Try.func7, Try.ntmps7
  go_wp2
  go_loopw [4] (fun i wr => ∃ k : Nat, k ≤ len ∧ i = .int .i64 k ∧ Hid (wr.rowIs w.heap.size 5 len (fun j => .int .u8 (if j < k then zs.getD j 0 else 0))) ∧ Below w.heap.size w wr) (fun i _ => len - (intOf i).toNat)
  case atStart => exact ⟨0, by omega, rfl, (World.rowIs_made w (.int .u8 0) len 5).congr (fun j _ => by rw [if_neg (by omega)]), (Below.refl _ _).alloc (Nat.le_refl _) _⟩
  case round =>
    obtain ⟨k, hk, rfl, HR, hnx⟩ := hrel
    by_cases hlt : k < len
    · have hcx : wr.cell? (x.add k) = some (.int .u8 (zs.getD k 0)) := cell_later hnx (HC.out k (by have := HZ.out; omega))
      have hm0 := HR.out.cell hlt
      have hf0 := HR.out.frozen k
      rw [if_neg (by omega)] at hm0
      obtain ⟨v, hv⟩ : ∃ v, zs.getD k 0 = v := ⟨_, rfl⟩
      rw [hv] at hcx
      have HV := hid hv
      clear hv
      go_wp2
      go_roundw
      case rel =>
        refine ⟨k + 1, by omega, by go_num, (HR.out.set k _).congr fun j _ => ?_, hnx.setCell (Nat.le_refl _) _⟩
        by_cases e : j = k
        · rw [if_pos e, if_pos (by omega), e, HV.out]
        · rw [if_neg e]
          by_cases e2 : j < k
          · rw [if_pos e2, if_pos (by omega)]
          · rw [if_neg e2, if_neg (by omega)]
      case measure => simp [intOf]; omega
    · obtain rfl : k = len := by omega
      go_wp2
      go_ret
      refine ⟨_, rfl, ⟨?_, Nat.le_refl _, .inr ⟨w.heap.size, rfl, fun j hj => ?_⟩⟩, hnx⟩
      · have := HZ.out
        simp [bytesIn, Lib.bytesOf]; omega
      · have hj' : j < k := by
          have h1 : (bytesIn zs k).length ≤ k := by simp [bytesIn, Lib.bytesOf]; omega
          omega
        rw [HR.out.cell hj', bz_in zs k j hj' (by have := HZ.out; omega) HW.out]
        rw [if_pos hj']

set_option maxHeartbeats 400000 in
theorem clone_any (a : Option Addr) (len cap : Nat) (zs : List Int) (w : World) (h : IsRow .u8 w a len cap zs) (hl : len ≤ 1048576) :
    Calls Try.prog 7 #[.slice a len cap] w fun e w' => ∃ p, e = .returned (.slice p len len) ∧ Cb w' p len len (bytesIn zs len) ∧ Below w.heap.size w w' := by
  rcases h with ⟨rfl, rfl, rfl, rfl⟩ | ⟨x, rfl, h1, h2, h3, h4, h5⟩
  · have q22 := fun (w : World) (a : Option Addr) (n c n' c' : Nat) => Lib.run_eql_slice_nil (P := Try.prog) w 22 5 a n c n' c' Try.underlying22
    go_enter Try.func7, Try.ntmps7
    go_wp2
    go_ret
    exact ⟨_, rfl, ⟨rfl, Nat.le_refl _, .inl rfl⟩, Below.refl _ _⟩
  · exact clone_some x len cap zs w h1 h3 hl h4 h5

end Go.Proofs.Qxb6605365a
