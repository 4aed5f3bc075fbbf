/-
  THE WALK of 'rootsOf'.
-/
import Derived.Test.Qxb6605357aDists
import Derived.OwnWalk
namespace Go.Proofs.Qxb6605357a
open Go.RowKit

theorem info9 : (Try.prog.info? 9).map (fun i => (i.zero, i.size, i.bytes)) = some (some (.string ByteArray.empty), 1, 16) := by kernel_rfl

theorem owns_one (w : World) (base : Nat) (x : Value) (h : base ≤ w.heap.size) : (w.alloc (.cells #[x] 9)).ownsRow base 9 1 (.slice (some ⟨w.heap.size, 0, none⟩) 1 1) 1 [x] :=
  ⟨rfl, .inr ⟨w.heap.size, 1, #[x], rfl, h, heap_alloc_new w _, Nat.le_refl _, by decide, rfl, rfl⟩⟩

/-- strings.Cut as it lies in this program -/
def CutAt : Prop := ∀ (s sep : ByteArray) (m : Int) (w : World), s.size < 4294967281 → w.cell? ⟨0, 0, none⟩ = some (.int .i64 m) →
    Calls Try.prog 15 #[.string s, .string sep] w fun e w' => e = .returned (.tuple #[.string ⟨(Lib.cut s.data.toList sep.data.toList).1.toArray⟩, .string ⟨(Lib.cut s.data.toList sep.data.toList).2.1.toArray⟩, .bool (Lib.cut s.data.toList sep.data.toList).2.2]) ∧ ∃ n, w' = w.drewN n

theorem bel_drewN {B : Nat} {a w : World} (h : Below B a w) (n : Nat) : Below B a (w.drewN n) := h.trans ⟨rfl, rfl, rfl, Nat.le_refl _, fun _ _ => rfl⟩

theorem start_eq (s : ByteArray) : Hid ([] ++ sl s (((s.size : Int) - 2) + 1).toNat = sl s (s.size - 1)) := by
  show [] ++ _ = _
  rw [List.nil_append]; congr 1; omega

theorem glen {s : ByteArray} {k m : Nat} {G : List Nat} (h : Hid (G ++ sl s k = sl s m)) : G.length ≤ m := by
  have h1 := congrArg List.length h.out
  have h2 := sl_length_le s m
  rw [List.length_append] at h1
  omega

theorem rel_hit {s : ByteArray} {k m : Nat} {G : List Nat} (hk : k < s.size) (hit : (((s[k].toNat : Nat) : Int) == 47) = true) (h : Hid (G ++ sl s ((k : Int) + 1).toNat = sl s m)) :
    Hid ((G ++ [k]) ++ sl s ((k : Int) - 1 + 1).toNat = sl s m) := by
  have h' := h.out
  rw [show ((k : Int) + 1).toNat = k + 1 from by omega, sl_succ_hit s k ((slash_iff s k hk).2 (by simpa using hit))] at h'
  show _ = _
  rw [show ((k : Int) - 1 + 1).toNat = k from by omega, ← h']
  simp

theorem rel_miss {s : ByteArray} {k m : Nat} {G : List Nat} (hk : k < s.size) (hit : (((s[k].toNat : Nat) : Int) == 47) = false) (h : Hid (G ++ sl s ((k : Int) + 1).toNat = sl s m)) :
    Hid (G ++ sl s ((k : Int) - 1 + 1).toNat = sl s m) := by
  have h' := h.out
  rw [show ((k : Int) + 1).toNat = k + 1 from by omega, sl_succ_miss s k (fun e => by rw [(slash_iff s k hk).1 e] at hit; simp at hit)] at h'
  show _ = _
  rw [show ((k : Int) - 1 + 1).toNat = k from by omega, ← h']

theorem roots_done {s : ByteArray} {j : Int} {G : List Nat} (hj : ¬ 0 ≤ j) (h : Hid (G ++ sl s (j + 1).toNat = sl s (s.size - 1))) : roots s = s :: G.map fun i => s.extract 0 (i + 1) := by
  have h' := h.out
  rw [show (j + 1).toNat = 0 from by omega] at h'
  have e : sl s 0 = [] := rfl
  rw [e, List.append_nil] at h'
  unfold roots
  rw [h']

set_option maxHeartbeats 400000 in
theorem roots_none (hc : CutAt) (s : ByteArray) (m : Int) (w : World) (hs : s.size ≤ 1000000) (hm : w.cell? ⟨0, 0, none⟩ = some (.int .i64 m)) (hix : Lib.indexB s pat = -1) :
    Calls Try.prog 12 #[.string s] w fun e w' => ∃ v, e = .returned v ∧ w'.ownsRow w.heap.size 9 1 v (roots s).length ((roots s).map Value.string) ∧ Below w.heap.size w w' := by
  obtain ⟨e1, e2, e3⟩ := Lib.cutB_miss s pat hix
  have HC : Hid CutAt := hc
  clear hc
  go_enter Try.func12, Try.ntmps12
  go_wp2_with (go_at_call 15; refine (HC.out s pat m _ (by omega) hm).mono ?_; rintro e w' ⟨rfl, n, rfl⟩; rw [e1, e2, e3])
  clear e1 e2 e3 hm HC
  obtain ⟨i0, hi, hz0, hz1, hz2⟩ := info_parts info9
  go_loopw [6, 7] (fun v i wr => ∃ (j : Int) (G : List Nat), -2 ≤ j ∧ j + 2 ≤ s.size ∧ i = .int .i64 j ∧ Hid (G ++ sl s (j + 1).toNat = sl s (s.size - 1)) ∧
      wr.ownsRow w.heap.size 9 1 v (G.length + 1) (Value.string s :: G.map fun i => Value.string (s.extract 0 (i + 1))) ∧ Below w.heap.size w wr) (fun _ i _ => (intOf i + 2).toNat)
  case atStart => exact ⟨_, [], by omega, by omega, rfl, start_eq s, owns_one _ _ _ (Nat.le_refl _), (bel_drewN (Below.refl _ _) _).alloc (Nat.le_refl _) _⟩
  case round =>
    obtain ⟨j, G, hj1, hj2, rfl, HG, hown, hnx⟩ := hrel
    by_cases hlt : 0 ≤ j
    · obtain ⟨k, rfl⟩ : ∃ k : Nat, j = (k : Int) := ⟨j.toNat, by omega⟩
      have hk : k < s.size := by omega
      have hGl := glen HG
      have hsz := hnx.size
      go_wp2_with (at_builtin; refine wpList_append_own _ rfl _ _ 23 rfl w.heap.size 9 i0 (.string ByteArray.empty) 1 16 Try.underlying23 hi hz0 hz1 hz2 rfl (by decide) _ _ _ rfl (hown.alloc _) ⟨wr.heap.size, 0, none⟩ 1 1 [.string (s.extract 0 (k + 1))] rfl rfl ?c1 ?c2 ?c3 ?c4 ?c5 ?_)
      case c1 => exact cell_one_new _ _ _
      case c2 => intro u hu; simp at hu; subst hu; rfl
      case c3 => unfold maxLen; omega
      case c4 => omega
      case c5 => simp; omega
      · intro v' w1 hown' hgrow _
        have hit : (((s[k].toNat : Nat) : Int) == 47) = true := by assumption
        have R := rel_hit hk hit HG
        have hb1 : Below w.heap.size w w1 := (hnx.alloc hsz _).grown hgrow (by simp; omega) (fun k hk => (hown.lt k hk).1)
        clear hown hgrow hnx
        go_wp2
        go_roundw
        case rel => exact ⟨(k : Int) - 1, G ++ [k], by omega, by omega, by go_num, R, by simpa using hown', hb1⟩
        case measure => simp [intOf]; omega
      · have hit : (((s[k].toNat : Nat) : Int) == 47) = false := by assumption
        have R := rel_miss hk hit HG
        go_wp2
        go_roundw
        case rel => exact ⟨(k : Int) - 1, G, by omega, by omega, by go_num, R, hown, hnx⟩
        case measure => simp [intOf]; omega
    · go_wp2
      go_ret
      refine ⟨_, rfl, ?_, hnx⟩
      rw [roots_done (by omega) HG]
      simpa [Function.comp_def] using hown

set_option maxHeartbeats 400000 in
theorem roots_some (hc : CutAt) (s : ByteArray) (m : Int) (w : World) (hs : s.size ≤ 1000000) (hm : w.cell? ⟨0, 0, none⟩ = some (.int .i64 m)) (i : Nat) (hix : Lib.indexB s pat = i) :
    Calls Try.prog 12 #[.string s] w fun e w' => ∃ v, e = .returned v ∧ w'.ownsRow w.heap.size 9 1 v 1 [Value.string (s.extract 0 (i + 1))] ∧ Below w.heap.size w w' := by
  obtain ⟨e1, e2, e3⟩ := Lib.cutB_hit s pat i hix
  have HC : Hid CutAt := hc
  clear hc
  go_enter Try.func12, Try.ntmps12
  go_wp2_with (go_at_call 15; refine (HC.out s pat m _ (by omega) hm).mono ?_; rintro e w' ⟨rfl, n, rfl⟩; rw [e1, e2, e3])
  go_ret
  refine ⟨_, rfl, ?_, (bel_drewN (Below.refl _ _) _).alloc (Nat.le_refl _) _⟩
  rw [piece_slash s i (hit_at s i hix).2.2]
  exact owns_one (w.drewN n) _ _ (Nat.le_refl _)
end Go.Proofs.Qxb6605357a
