/-
  THE WALKS of 'jsb1HexDigit' and 'jsb1AppendQuoted'.
-/
import Derived.Test.Qxb6605386aStr
import Derived.OwnWalk
import Derived.Deep.AppendSrc
import Derived.Lib.SlFresh
namespace Go.Proofs.Qxb6605386a
open Go.RowKit

def hexI (x : Int) : Int := if x < 10 then 48 + x else 87 + x

set_option maxHeartbeats 400000 in
theorem hex_digit (x : Int) (h0 : 0 ≤ x) (h1 : x < 16) (w : World) :
    Calls Try.prog 37 #[.int .u8 x] w fun e w' => e = .returned (.int .u8 (hexI x)) ∧ w' = w := by
  by_cases h : x < 10
  · have e : hexI x = 48 + x := by rw [hexI, if_pos h]
    rw [e]
    clear e
    go_enter Try.func37, Try.ntmps37
    go_wp2
    go_ret
    exact ⟨rfl, rfl⟩
  · have e : hexI x = 87 + x := by rw [hexI, if_neg h]
    rw [e]
    clear e
    go_enter Try.func37, Try.ntmps37
    go_wp2
    go_ret
    exact ⟨ret_int (by omega), rfl⟩

/-- WHAT THE WALK IS TOLD OF A SLICE OF INTEGERS THAT CAME IN: it is nil; or it leads to a row of 'cap' cells, the numbers 'zs' (the first 'len' are its elements, the rest its spare room), each fitting its kind. -/
def IsRow (k : IntKind) (w : World) (a : Option Addr) (len cap : Nat) (zs : List Int) : Prop :=
  (a = none ∧ len = 0 ∧ cap = 0 ∧ zs = []) ∨
  ∃ x, a = some x ∧ len ≤ cap ∧ cap ≤ maxLen ∧ zs.length = cap ∧ (∀ i, i < zs.length → w.cell? (x.add i) = some (.int k (zs.getD i 0))) ∧ ∀ n ∈ zs, (Lit.int k n).wf = true

theorem info5 : (Try.prog.info? 5).map (fun i => (i.zero, i.size, i.bytes)) = some (some (.int .u8 0), 1, 1) := by kernel_rfl

/-- the cells of a list of bytes -/
def cellsB (D : List UInt8) : List Value := D.map fun b => Value.int .u8 (b.toNat : Int)
theorem cellsB_len (D : List UInt8) : (cellsB D).length = D.length := by simp [cellsB]
theorem cellsB_append (D E : List UInt8) : cellsB (D ++ E) = cellsB D ++ cellsB E := by simp [cellsB]
theorem cellsB_one (D : List UInt8) : ∀ u ∈ cellsB D, u.oneCell' = true := by
  intro u hu
  obtain ⟨b, _, rfl⟩ := List.mem_map.1 hu
  rfl

/-- a slice that came in, as bytes: it has none, or its cells lie at an address -/
def In (w : World) (a : Option Addr) (n : Nat) (A : List UInt8) : Prop :=
  A.length = n ∧ ((a = none ∧ n = 0) ∨ ∃ x, a = some x ∧ ∀ j, j < n → w.cell? (x.add j) = some (.int .u8 (bz A j)))

/-- an owned row that is not nil, written out -/
theorem owns_form {w : World} {base n : Nat} {v : Value} {xs : List Value} (h : w.ownsRow base 5 1 v n xs) (hv : 0 < n ∨ v ≠ .slice none 0 0) :
    ∃ g cap, v = .slice (some ⟨g, 0, none⟩) n cap ∧ base ≤ g ∧ n ≤ cap ∧ cap ≤ maxLen := by
  rcases h.2 with ⟨e, h0⟩ | ⟨g, cap, cur, hv', hb, hg, hn, hm, _⟩
  · rcases hv with hv | hv
    · omega
    · exact absurd e hv
  · exact ⟨g, cap, hv', hb, hn, hm⟩

theorem cells_of_in {w : World} {x : Addr} {n : Nat} {A : List UInt8} (hl : A.length = n) (h : ∀ j, j < n → w.cell? (x.add j) = some (.int .u8 (bz A j))) : ∀ j u, (cellsB A)[j]? = some u → w.cell? (x.add j) = some u := by
  intro j u hu
  unfold cellsB at hu
  rw [List.getElem?_map] at hu
  obtain ⟨b, hb, rfl⟩ := Option.map_eq_some_iff.1 hu
  have hj : j < A.length := (List.getElem?_eq_some_iff.1 hb).1
  rw [h j (by omega), bz_some hb]

/-- THE LAW OF append ONTO A ROW OF BYTES THAT THE CALL OWNS, from whatever source -/
theorem app22 (w : World) {ops : Array Oper} {rest : List Oper} {o : Oper} {a : Act} {Q : Exit → Act → World → Prop} (hgd : o.guard = none) (s x : Operand)
    (ho : o.op = .call { callee := .builtin .append, args := #[s, x], argTypes := #[22, 22] }) (base : Nat) (v : Value) (n : Nat) (D : List UInt8) (hs : a.eval s = v) (hown : w.ownsRow base 5 1 v n (cellsB D))
    (p : Option Addr) (m c : Nat) (N : List UInt8) (hx : a.eval x = .slice p m c) (hin : In w p m N) (hb : n + m ≤ 100000000) (hne : v ≠ .slice none 0 0 ∨ 0 < n + m) (w0 : World) (hB : Below base w0 w) (hbase : base ≤ w.heap.size)
    (h : ∀ g cap w', w'.ownsRow base 5 1 (.slice (some ⟨g, 0, none⟩) (n + m) cap) (n + m) (cellsB (D ++ N)) → Below base w0 w' → wpList Try.prog ops Q rest (a.put o.dst (.slice (some ⟨g, 0, none⟩) (n + m) cap)) w') :
    wpList Try.prog ops Q (o :: rest) a w := by
  obtain ⟨i0, hi, hz0, hz1, hz2⟩ := info_parts info5
  obtain ⟨hl, ⟨rfl, rfl⟩ | ⟨ad, rfl, hc⟩⟩ := hin
  · obtain rfl := List.eq_nil_of_length_eq_zero hl
    obtain ⟨g, cap, rfl, hg, hn, hm⟩ := owns_form hown (by rcases hne with h | h; exact .inr h; exact .inl (by omega))
    have hr := run_append_room_src (P := Try.prog) w 22 22 o.type 5 i0 Try.underlying22 hi g 0 n cap (.slice none 0 c) 0 [] (Src.ofNil w Try.underlying22 c) (by omega) (fun j hj => absurd hj (Nat.not_lt_zero _)) (fun j hj => absurd hj (Nat.not_lt_zero _))
    refine Lib.wpList_append_run_sl w hgd s x 22 ho _ _ hs hx hr ?_
    have := h g cap w (by rw [List.append_nil]; exact hown) hB
    exact this
  · refine wpList_append_own w hgd s x 22 ho base 5 i0 (.int .u8 0) 1 1 Try.underlying22 hi hz0 hz1 hz2 rfl (by decide) v n (cellsB D) hs hown ad m c (cellsB N) hx (by rw [cellsB_len, hl, Nat.mul_one]) (cells_of_in hl hc) (cellsB_one N) (by unfold maxLen; omega) (by omega) hbase ?_
    intro v' w' ho' hg' hiff
    have hv' : 0 < n + m ∨ v' ≠ .slice none 0 0 := by
      rcases hne with h | h
      · exact .inr fun e => h (hiff.1 e).1
      · exact .inl h
    obtain ⟨g, cap, rfl, _⟩ := owns_form ho' hv'
    rw [← cellsB_append] at ho'
    exact h g cap w' ho' (hB.grown hg' hbase fun k hk => (hown.lt k hk).1)

/-- a literal's new block as a source -/
theorem in_new (w : World) (N : List UInt8) (k : Nat) (hk : N.length = k) (cs : Array Value) (hcs : cs = (cellsB N).toArray) : In (w.alloc (.cells cs 5)) (some ⟨w.heap.size, 0, none⟩) k N := by
  subst hcs
  refine ⟨hk, .inr ⟨_, rfl, fun j hj => ?_⟩⟩
  have e : (⟨w.heap.size, 0, none⟩ : Addr).add j = ⟨w.heap.size, j, none⟩ := by unfold Addr.add; split <;> simp_all
  rw [e, cell_of_row _ _ j _ 5 (0, 0) (heap_alloc_new w _)]
  unfold cellsB bz
  rw [List.getElem?_toArray, List.getElem?_map, List.getD_eq_getElem?_getD, List.getElem?_eq_getElem (by omega)]
  rfl

theorem hex_hi (c : UInt8) (h : c < 32) : ((hexd (c / 16)).toNat : Int) = hexI ((c.toNat : Int) / 16) := by
  have key : ∀ n : Fin 32, ((hexd (UInt8.ofNat n / 16)).toNat : Int) = hexI (((UInt8.ofNat n).toNat : Int) / 16) := by decide +kernel
  have h' := key ⟨c.toNat, UInt8.lt_iff_toNat_lt.1 h⟩
  simp only [UInt8.ofNat_toNat] at h'
  exact h'
theorem hex_lo (c : UInt8) (h : c < 32) : ((hexd (c % 16)).toNat : Int) = hexI ((c.toNat : Int) % 16) := by
  have key : ∀ n : Fin 32, ((hexd (UInt8.ofNat n % 16)).toNat : Int) = hexI (((UInt8.ofNat n).toNat : Int) % 16) := by decide +kernel
  have h' := key ⟨c.toNat, UInt8.lt_iff_toNat_lt.1 h⟩
  simp only [UInt8.ofNat_toNat] at h'
  exact h'

theorem enc_take_succ (A : List UInt8) (k : Nat) (c : UInt8) (h : A[k]? = some c) : enc (A.take (k + 1)) = enc (A.take k) ++ encB c := by
  obtain ⟨hk, e⟩ := List.getElem?_eq_some_iff.1 h
  rw [List.take_succ_eq_append_getElem hk, enc_append, e]
  show enc (A.take k) ++ (encB c ++ []) = _
  rw [List.append_nil]

theorem len_step {N m : Nat} {E F U : List UInt8} (h : N = (34 :: E).length) (hF : F = E ++ U) (hU : U.length = m) : N + m = (34 :: F).length := by
  rw [h, hF, List.length_cons, List.length_cons, List.length_append, hU]; omega

set_option maxHeartbeats 1600000 in
theorem append_quoted (x : Addr) (len cap : Nat) (A : List UInt8) (w : World) (hl : A.length = len) (hn : len ≤ 1048576) (hc : ∀ j, j < len → w.cell? (x.add j) = some (.int .u8 (bz A j))) :
    Calls Try.prog 20 #[.slice none 0 0, .slice (some x) len cap] w fun e w' => ∃ g cap', e = .returned (.slice (some ⟨g, 0, none⟩) (quo A).length cap') ∧
      w'.ownsRow w.heap.size 5 1 (.slice (some ⟨g, 0, none⟩) (quo A).length cap') (quo A).length (cellsB (quo A)) ∧ Below w.heap.size w w' := by
  have HC := hid hc
  have HL := hid hl
  clear hc hl
  go_enter Try.func20, Try.ntmps20
  go_wp2_with (at_builtin; refine app22 _ rfl (.tmp 7) (.tmp 8) rfl w.heap.size _ 0 [] rfl (World.ownsRow_nil _ _ _ _) _ 1 1 [34] rfl (in_new w [34] 1 rfl _ rfl) (by omega) (.inr (by omega)) w ((Below.refl _ _).alloc (Nat.le_refl _) _) (by simp) ?_)
  intro g1 cap1 w1 hown1 hb1
  have HOWN1 := hid hown1
  have HB1 := hid hb1
  clear hown1 hb1
  go_wp2
  go_loopw [0, 5] (fun v i wr => ∃ k g cp N : Nat, k ≤ len ∧ N ≤ 6 * k + 1 ∧ 1 ≤ N ∧ i = .int .i64 k ∧ v = .slice (some ⟨g, 0, none⟩) N cp ∧ Hid (N = (34 :: enc (A.take k)).length) ∧
      Hid (wr.ownsRow w.heap.size 5 1 (.slice (some ⟨g, 0, none⟩) N cp) N (cellsB (34 :: enc (A.take k)))) ∧ Hid (Below w.heap.size w wr)) (fun _ i _ => len - (intOf i).toNat)
  case atStart => exact ⟨0, g1, cap1, 1, by omega, by omega, by omega, rfl, rfl, rfl, HOWN1, HB1⟩
  case round =>
    obtain ⟨k, g, cp, N, hk, hN1, hN2, rfl, rfl, HN, HOWN, HB⟩ := hrel
    by_cases hlt : k < len
    · have hkA : k < A.length := by rw [HL.out]; exact hlt
      obtain ⟨c, hc⟩ : ∃ c, A[k]? = some c := ⟨_, List.getElem?_eq_getElem hkA⟩
      have hcx : wr.cell? (x.add k) = some (.int .u8 (c.toNat : Int)) := by
        rw [cell_later HB.out (HC.out k hlt), bz_some hc]
      have HE := hid (enc_take_succ A k c hc)
      have hsz := HB.out.size
      have hOA : ∀ o, (wr.alloc o).ownsRow w.heap.size 5 1 (.slice (some ⟨g, 0, none⟩) N cp) N (cellsB (34 :: enc (A.take k))) := fun o => HOWN.out.alloc o
      have hBA : ∀ o, Below w.heap.size w (wr.alloc o) := fun o => HB.out.alloc hsz o
      have HOA := hid hOA
      have HBA := hid hBA
      clear hkA hc hOA hBA
      have hcl := c.toNat_lt
      by_cases hq : c = 34 ∨ c = 92
      · have heB : Hid (encB c = [92, c]) := by show _ = _; rw [encB, if_pos hq]
        have t2 : ((c.toNat : Int) == 34) = true ∨ (((c.toNat : Int) == 34) = false ∧ ((c.toNat : Int) == 92) = true) := by
          rcases hq with rfl | rfl
          · exact .inl rfl
          · exact .inr ⟨rfl, rfl⟩
        obtain ⟨cI, hcI⟩ : ∃ cI : Int, (c.toNat : Int) = cI := ⟨_, rfl⟩
        have HCI := hid hcI
        rw [hcI] at hcx t2
        clear hq hcI
        have hnew := hid fun (W : World) => in_new W [92, c] 2 rfl #[.int .u8 92, .int .u8 cI] (by rw [← HCI.out]; rfl)
        rcases t2 with t2 | ⟨t2, t3⟩
        all_goals
          go_wp2_with (at_builtin; refine app22 _ rfl (.tmp 26) (.tmp 28) rfl w.heap.size _ N (34 :: enc (A.take k)) rfl (by exact HOA.out _) _ 2 2 [92, c] rfl (by exact hnew.out _) (by omega) (.inr (by omega)) w (by exact HBA.out _) (by simp; omega) ?_)
          intro g2 cp2 w2 hown2 hb2
          have HOWN2 : Hid (w2.ownsRow w.heap.size 5 1 (.slice (some ⟨g2, 0, none⟩) (N + 2) cp2) (N + 2) (cellsB (34 :: enc (A.take (k + 1))))) := by
            show World.ownsRow _ _ _ _ _ _ _
            rw [HE.out, heB.out]; exact hown2
          have HB2 := hid hb2
          have HLN : Hid (N + 2 = (34 :: enc (A.take (k + 1))).length) := len_step HN.out HE.out (by rw [heB.out]; rfl)
          clear hown2 hb2 HOWN HB HOA HBA HN HE heB
          go_wp2
          go_roundw
          case rel => exact ⟨k + 1, g2, cp2, N + 2, by omega, by omega, by omega, by go_num, rfl, HLN, HOWN2, HB2⟩
          case measure => simp [intOf]; omega
      · have t1 : ((c.toNat : Int) == 34) = false := by
          rw [beq_eq_false_iff_ne]; exact fun e => hq (.inl (UInt8.toNat_inj.1 (Int.ofNat.inj e)))
        have t2 : ((c.toNat : Int) == 92) = false := by
          rw [beq_eq_false_iff_ne]; exact fun e => hq (.inr (UInt8.toNat_inj.1 (Int.ofNat.inj e)))
        by_cases h32 : c < 32
        · have heB : Hid (encB c = [92, 117, 48, 48, hexd (c / 16), hexd (c % 16)]) := by show _ = _; rw [encB, if_neg hq, if_pos h32]
          have hhi := hex_hi c h32
          have hlo := hex_lo c h32
          have h32' : (c.toNat : Int) < 32 := by have := UInt8.lt_iff_toNat_lt.1 h32; have e : (32 : UInt8).toNat = 32 := rfl; omega
          obtain ⟨cI, hcI⟩ : ∃ cI : Int, (c.toNat : Int) = cI := ⟨_, rfl⟩
          have c0 : 0 ≤ cI := by omega
          rw [hcI] at hcx t1 t2 hhi hlo h32'
          have hnew := hid fun (W : World) => in_new W [92, 117, 48, 48, hexd (c / 16), hexd (c % 16)] 6 rfl #[.int .u8 92, .int .u8 117, .int .u8 48, .int .u8 48, .int .u8 (hexI (cI / 16)), .int .u8 (hexI (cI % 16))] (by rw [← hhi, ← hlo]; rfl)
          clear hq h32 hcI hhi hlo hcl
          go_wp2_with fail
          refine (hex_digit (cI / 16) (by omega) (by omega) _).mono ?_
          rintro e w' ⟨rfl, hw⟩
          rw [hw]
          clear hw w'
          go_wp2_with fail
          refine (hex_digit (cI % 16) (by omega) (by omega) _).mono ?_
          rintro e w' ⟨rfl, hw⟩
          rw [hw]
          clear hw w'
          go_wp2_with (at_builtin; refine app22 _ rfl (.tmp 32) (.tmp 39) rfl w.heap.size _ N (34 :: enc (A.take k)) rfl (by exact HOA.out _) _ 6 6 [92, 117, 48, 48, hexd (c / 16), hexd (c % 16)] rfl (by exact hnew.out _) (by omega) (.inr (by omega)) w (by exact HBA.out _) (by simp; omega) ?_)
          intro g2 cp2 w2 hown2 hb2
          have HOWN2 : Hid (w2.ownsRow w.heap.size 5 1 (.slice (some ⟨g2, 0, none⟩) (N + 6) cp2) (N + 6) (cellsB (34 :: enc (A.take (k + 1))))) := by
            show World.ownsRow _ _ _ _ _ _ _
            rw [HE.out, heB.out]; exact hown2
          have HB2 := hid hb2
          have HLN : Hid (N + 6 = (34 :: enc (A.take (k + 1))).length) := len_step HN.out HE.out (by rw [heB.out]; rfl)
          clear hown2 hb2 HOWN HB HOA HBA HN HE heB
          go_wp2
          go_roundw
          case rel => exact ⟨k + 1, g2, cp2, N + 6, by omega, by omega, by omega, by go_num, rfl, HLN, HOWN2, HB2⟩
          case measure => simp [intOf]; omega
        · have heB : Hid (encB c = [c]) := by show _ = _; rw [encB, if_neg hq, if_neg h32]
          have h32' : ¬ (c.toNat : Int) < 32 := fun h => h32 (UInt8.lt_iff_toNat_lt.2 (by have e : (32 : UInt8).toNat = 32 := rfl; omega))
          obtain ⟨cI, hcI⟩ : ∃ cI : Int, (c.toNat : Int) = cI := ⟨_, rfl⟩
          rw [hcI] at hcx t1 t2 h32'
          have hnew := hid fun (W : World) => in_new W [c] 1 rfl #[.int .u8 cI] (by rw [← hcI]; rfl)
          clear hq h32 hcI hcl
          go_wp2_with (at_builtin; refine app22 _ rfl (.tmp 41) (.tmp 43) rfl w.heap.size _ N (34 :: enc (A.take k)) rfl (by exact HOA.out _) _ 1 1 [c] rfl (by exact hnew.out _) (by omega) (.inr (by omega)) w (by exact HBA.out _) (by simp; omega) ?_)
          intro g2 cp2 w2 hown2 hb2
          have HOWN2 : Hid (w2.ownsRow w.heap.size 5 1 (.slice (some ⟨g2, 0, none⟩) (N + 1) cp2) (N + 1) (cellsB (34 :: enc (A.take (k + 1))))) := by
            show World.ownsRow _ _ _ _ _ _ _
            rw [HE.out, heB.out]; exact hown2
          have HB2 := hid hb2
          have HLN : Hid (N + 1 = (34 :: enc (A.take (k + 1))).length) := len_step HN.out HE.out (by rw [heB.out]; rfl)
          clear hown2 hb2 HOWN HB HOA HBA HN HE heB
          go_wp2
          go_roundw
          case rel => exact ⟨k + 1, g2, cp2, N + 1, by omega, by omega, by omega, by go_num, rfl, HLN, HOWN2, HB2⟩
          case measure => simp [intOf]; omega
    · obtain rfl : k = len := by omega
      have hsz := HB.out.size
      have HOA : Hid (∀ o, (wr.alloc o).ownsRow w.heap.size 5 1 (.slice (some ⟨g, 0, none⟩) N cp) N (cellsB (34 :: enc A))) := fun o => by
        have := HOWN.out.alloc o
        rw [List.take_of_length_le (by rw [HL.out]; exact Nat.le_refl _)] at this
        exact this
      have HBA : Hid (∀ o, Below w.heap.size w (wr.alloc o)) := fun o => HB.out.alloc hsz o
      have HQL : Hid ((quo A).length = N + 1) := by
        show _ = _
        have := HN.out
        rw [List.take_of_length_le (by rw [HL.out]; exact Nat.le_refl _), List.length_cons] at this
        rw [quo_length]; omega
      have hnew := hid fun (W : World) => in_new W [34] 1 rfl #[.int .u8 34] rfl
      clear HOWN HB HN HOWN1 HB1
      go_wp2_with (at_builtin; refine app22 _ rfl (.tmp 45) (.tmp 46) rfl w.heap.size _ N (34 :: enc A) rfl (by exact HOA.out _) _ 1 1 [34] rfl (by exact hnew.out _) (by omega) (.inr (by omega)) w (by exact HBA.out _) (by simp; omega) ?_)
      intro g2 cp2 w2 hown2 hb2
      have HOWN2 := hid hown2
      have HB2 := hid hb2
      clear hown2 hb2 HOA HBA
      go_wp2
      go_ret
      refine ⟨g2, cp2, ?_, ?_, HB2.out⟩
      · rw [HQL.out]; rfl
      · rw [HQL.out]; exact HOWN2.out

set_option maxHeartbeats 400000 in
/-- of nothing: two quotes -/
theorem append_none (w : World) :
    Calls Try.prog 20 #[.slice none 0 0, .slice none 0 0] w fun e w' => ∃ g cap', e = .returned (.slice (some ⟨g, 0, none⟩) (quo []).length cap') ∧
      w'.ownsRow w.heap.size 5 1 (.slice (some ⟨g, 0, none⟩) (quo []).length cap') (quo []).length (cellsB (quo [])) ∧ Below w.heap.size w w' := by
  go_enter Try.func20, Try.ntmps20
  go_wp2_with (at_builtin; refine app22 _ rfl (.tmp 7) (.tmp 8) rfl w.heap.size _ 0 [] rfl (World.ownsRow_nil _ _ _ _) _ 1 1 [34] rfl (in_new w [34] 1 rfl _ rfl) (by omega) (.inr (by omega)) w ((Below.refl _ _).alloc (Nat.le_refl _) _) (by simp) ?_)
  intro g1 cap1 w1 hown1 hb1
  have hsz := hb1.size
  have HOA : Hid (∀ o, (w1.alloc o).ownsRow w.heap.size 5 1 (.slice (some ⟨g1, 0, none⟩) 1 cap1) 1 (cellsB [34])) := fun o => hown1.alloc o
  have HBA : Hid (∀ o, Below w.heap.size w (w1.alloc o)) := fun o => hb1.alloc hsz o
  clear hown1 hb1
  go_wp2
  go_loop [0, 5] (fun v i => v = .slice (some ⟨g1, 0, none⟩) 1 cap1 ∧ i = .int .i64 0) (fun _ _ => 0)
  case atStart => exact ⟨rfl, rfl⟩
  case round =>
    obtain ⟨rfl, rfl⟩ := hrel
    go_wp2_with (at_builtin; refine app22 _ rfl (.tmp 45) (.tmp 46) rfl w.heap.size _ 1 [34] rfl (by exact HOA.out _) _ 1 1 [34] rfl (by exact in_new w1 [34] 1 rfl _ rfl) (by omega) (.inr (by omega)) w (by exact HBA.out _) (by simp; omega) ?_)
    intro g2 cp2 w2 hown2 hb2
    have HOWN2 := hid hown2
    have HB2 := hid hb2
    clear hown2 hb2 HOA HBA
    go_wp2
    go_ret
    exact ⟨g2, cp2, rfl, HOWN2.out, HB2.out⟩

theorem append_any (a : Option Addr) (len cap : Nat) (A : List UInt8) (w : World) (hcap : a = none → cap = 0) (h : In w a len A) (hn : len ≤ 1048576) :
    Calls Try.prog 20 #[.slice none 0 0, .slice a len cap] w fun e w' => ∃ g cap', e = .returned (.slice (some ⟨g, 0, none⟩) (quo A).length cap') ∧
      w'.ownsRow w.heap.size 5 1 (.slice (some ⟨g, 0, none⟩) (quo A).length cap') (quo A).length (cellsB (quo A)) ∧ Below w.heap.size w w' := by
  obtain ⟨hl, ⟨rfl, rfl⟩ | ⟨x, rfl, hc⟩⟩ := h
  · obtain rfl := List.eq_nil_of_length_eq_zero hl
    obtain rfl := hcap rfl
    exact append_none w
  · exact append_quoted x len cap A w hl hn hc

end Go.Proofs.Qxb6605386a
