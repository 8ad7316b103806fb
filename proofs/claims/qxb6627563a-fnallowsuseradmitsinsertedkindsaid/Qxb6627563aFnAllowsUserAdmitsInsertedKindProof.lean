import Derived.Test.Qxb6627563aRows
import Derived.Test.Qxb6627563aOpen
namespace Go.Proofs.Qxb6627563a.fnAllowsUserAdmitsInsertedKind
open Go.ChangeShapes Go.WideShapes Go.ChangeAt Go.RowKit Go.Joins Go.Deep
open Go.ChangeMaps (open_string shut_string)
set_option linter.unusedVariables false

/-- the two users, boxed -/
structure Boxes (w : World) (p q : Nat) (ut ui ur vt vi vr : ByteArray) : Prop where
  x0 : w.cell? ⟨p, 0, none⟩ = some (.string ut)
  x1 : w.cell? ⟨p, 1, none⟩ = some (.string ui)
  x2 : w.cell? ⟨p, 2, none⟩ = some (.string ur)
  x3 : w.cell? ⟨q, 0, none⟩ = some (.string vt)
  x4 : w.cell? ⟨q, 1, none⟩ = some (.string vi)
  x5 : w.cell? ⟨q, 2, none⟩ = some (.string vr)

theorem Boxes.later {w w' : World} {p q : Nat} {ut ui ur vt vi vr : ByteArray} (h : Boxes w p q ut ui ur vt vi vr) (hb : Below w.heap.size w w') : Boxes w' p q ut ui ur vt vi vr where
  x0 := by rw [hb.cell (World.block_lt_of_cell? _ _ h.x0)]; exact h.x0
  x1 := by rw [hb.cell (World.block_lt_of_cell? _ _ h.x1)]; exact h.x1
  x2 := by rw [hb.cell (World.block_lt_of_cell? _ _ h.x2)]; exact h.x2
  x3 := by rw [hb.cell (World.block_lt_of_cell? _ _ h.x3)]; exact h.x3
  x4 := by rw [hb.cell (World.block_lt_of_cell? _ _ h.x4)]; exact h.x4
  x5 := by rw [hb.cell (World.block_lt_of_cell? _ _ h.x5)]; exact h.x5

/-- a world on the way: nothing below p has turned -/
structure On (p : Nat) (w a : World) : Prop where
  below : Below p w a
  le : p ≤ a.heap.size

theorem On.next {p : Nat} {w a b : World} (h : On p w a) (hb : Below a.heap.size a b) : On p w b :=
  ⟨h.below.trans (hb.mono h.le), Nat.le_trans h.le hb.size⟩

theorem len_of {l : List (ByteArray × ByteArray × Option Addr)} {m : List (ByteArray × ByteArray × Bool)} (h : plainOf l = m) : l.length = m.length := by
  rw [← h]; simp [plainOf]

theorem refs_zero (a : Option Addr) (len cap hi : Nat) (ty rl : Nat → ByteArray) (wc : Nat → Bool) (w : World) (hr : Refs w a len ty rl wc) (hl : len ≤ 65536) (h2 : hi ≤ len) :
    Calls Try.prog 7 #[.slice a len cap, .int .i64 0, .int .i64 hi] w fun e w' =>
      ∃ v l, e = .returned v ∧ Row w' w.heap.size v l ∧ plainOf l = Plain.kinds (fun i => (ty i, rl i, wc i)) 0 hi ∧ Below w.heap.size w w' :=
  refs_any a len cap 0 hi ty rl wc w hr hl (Nat.zero_le _) h2

/-- zzModel over a row of the call's own -/
theorem model_row (td rn : ByteArray) {base : Nat} {v : Value} {l : List (ByteArray × ByteArray × Option Addr)} (w : World) (hr : Row w base v l) :
    Calls Try.prog 9 #[.string td, .string rn, v] w fun e w' =>
      ∃ M T D Me R, e = .returned (.pointer (some ⟨M, 0, none⟩)) ∧ ModelAt w' M T D Me R td rn v ∧ Below w.heap.size w w' := by
  obtain ⟨_, ⟨rfl, _⟩ | ⟨g, cap, cur, rfl, _⟩⟩ := hr
  · exact model_any td rn none 0 0 w
  · exact model_any td rn _ _ _ w

/-- the plain law at the lists that the walk has made -/
theorem law_plain (td rn ot rel ut ui ur vt vi vr : ByteArray) (g : Nat → ByteArray × ByteArray × Bool) (j m : Nat) (hj : j ≤ m) (l l1 : List (ByteArray × ByteArray × Option Addr))
    (h : plainOf l = Plain.kinds g 0 j ++ (ut, ur, ui.toList == [42]) :: Plain.kinds g j (m - j)) (h1 : plainOf l1 = Plain.kinds g 0 m) :
    Plain.au td rn (plainOf l) td rn ut ui ur = true ∧
    Plain.au td rn (plainOf l) ot rel vt vi vr = (Plain.au td rn (plainOf l1) ot rel vt vi vr || ((ot.toList == td.toList) && ((rel.toList == rn.toList) && ((ut.toList == vt.toList) && ((ur.toList == vr.toList) && ((ui.toList == [42]) == (vi.toList == [42]))))))) := by
  have e : plainOf l1 = Plain.kinds g 0 j ++ Plain.kinds g j (m - j) := by
    have := Plain.kinds_append g 0 j (m - j)
    rw [Nat.zero_add, show j + (m - j) = m from by omega] at this
    rw [h1, this]
  rw [h, e]
  exact ⟨Plain.au_self _ _ _ _ _ _ _, Plain.au_insert _ _ _ _ _ _ _ _ _ _ _ _⟩

set_option maxHeartbeats 16000000 in
set_option maxRecDepth 100000 in
theorem walk_main (td rn ot rel ut ui ur vt vi vr : ByteArray) (a : Option Addr) (len cap k : Nat) (ty rl : Nat → ByteArray) (wc : Nat → Bool) (w : World) (hr : Refs w a len ty rl wc) (hl : len ≤ 65536) (hk : k ≤ len) :
    Calls Try.prog 3 #[.string td, .string rn, .slice a len cap, .int .i64 k, .agg #[.string ut, .string ui, .string ur], .string ot, .string rel, .agg #[.string vt, .string vi, .string vr]] w fun e w' =>
      e = .returned (.bool true) ∧ Below w.heap.size w w' := by
  have HR := hid hr
  clear hr
  obtain ⟨i0, hi0, hz0, hz1, hz2⟩ := info_parts info31
  go_enter Try.func3, Try.ntmps3
  go_wp2_with fail
  have hbW : Below w.heap.size w ((w.alloc (.cells #[.string ut, .string ui, .string ur] 24)).alloc (.cells #[.string vt, .string vi, .string vr] 24)) := below_alloc2 _ _ _
  have HRW := hid (HR.out.later hbW)
  have HO := hid (On.mk hbW hbW.size)
  have HX : Hid (Boxes ((w.alloc (.cells #[.string ut, .string ui, .string ur] 24)).alloc (.cells #[.string vt, .string vi, .string vr] 24)) w.heap.size (w.heap.size + 1) ut ui ur vt vi vr) := by
    obtain ⟨x0, x1, x2, x3, x4, x5⟩ := two_boxes w (.string ut) (.string ui) (.string ur) (.string vt) (.string vi) (.string vr) 24 24
    exact ⟨x0, x1, x2, x3, x4, x5⟩
  clear hbW HR
  generalize w.heap.size = p at HX ⊢
  generalize (w.alloc (.cells #[.string ut, .string ui, .string ur] 24)).alloc (.cells #[.string vt, .string vi, .string vr] 24) = W at HO HRW HX ⊢
  refine (bytes1_any td rn ot rel ut ui ur vt vi vr a len cap k ty rl wc W HRW.out (by unfold maxLen; omega)).mono ?_
  rintro e w1 ⟨⟨b, rfl⟩, b1⟩
  have O1 := hid (HO.out.next b1)
  have R1 := hid (HRW.out.later b1)
  have X1 := hid (HX.out.later b1)
  clear b1 HRW HX HO
  cases b
  · go_wp2_with fail
    go_ret
    exact ⟨rfl, O1.out.below⟩
  obtain ⟨x0, x1, x2, x3, x4, x5⟩ := X1.out
  go_wp2_with fail
  refine (bytes_any td rn ot rel ut ui ur vt vi vr a len cap ty rl wc w1 R1.out hl).mono ?_
  rintro e w2 ⟨⟨r, rfl⟩, b2⟩
  have O2 := hid (O1.out.next b2)
  have R2 := hid (R1.out.later b2)
  have X2 := hid (X1.out.later b2)
  clear b2 R1 X1 O1 x0 x1 x2 x3 x4 x5
  by_cases hrl : 1048576 < r
  · go_wp2_with fail
    go_ret
    exact ⟨rfl, O2.out.below⟩
  have hk0 : (0 : Int) ≤ (k : Int) := by omega
  have hkl : (k : Int) ≤ (len : Int) := by omega
  go_wp2_with fail
  refine (refs_zero a len cap len ty rl wc w2 R2.out hl (Nat.le_refl _)).mono ?_
  rintro e w3 ⟨v1, l1, rfl, row1, pl1, b3⟩
  have O3 := hid (O2.out.next b3)
  have R3 := hid (R2.out.later b3)
  have X3 := hid (X2.out.later b3)
  have W1 := hid row1
  have P1 := hid pl1
  clear b3 R2 X2 O2 row1 pl1
  go_wp2_with (at_make; refine wpList_make_own _ rfl _ _ 27 rfl w3.heap.size 31 i0 _ 4 Try.underlying27 hi0 hz0 hz1 .i64 .i64 _ (len + 1) rfl rfl (by omega) (by rw [hz2]; omega) (by unfold maxLen; omega) (Nat.le_refl _) ?_; intro w4 hown4 hgrow4)
  have b4 : Below w3.heap.size w3 w4 := (Below.refl _ _).grown hgrow4 (Nat.le_refl _) (by intro k hk; cases hk)
  have row4 : Row w4 w3.heap.size (.slice (some ⟨w3.heap.size, 0, none⟩) 0 (len + 1)) [] := hown4
  clear hown4 hgrow4
  go_loopw [18, 19] (fun v i wr => ∃ j l, j ≤ k ∧ i = .int .i64 (j : Nat) ∧ Row wr w3.heap.size v l ∧ Hid (plainOf l = Plain.kinds (fun i => (ty i, rl i, wc i)) 0 j) ∧ Below w3.heap.size w3 wr) (fun _ i _ => k - (intOf i).toNat)
  case atStart => exact ⟨0, [], Nat.zero_le _, rfl, row4, rfl, b4⟩
  case round =>
    obtain ⟨j, l, hj, rfl, hrow, hpl, hb⟩ := hrel
    have HL : Hid (l.length = j) := (len_of hpl.out).trans (Plain.kinds_length _ _ _)
    by_cases hlt : j < k
    · obtain ⟨b, off, rfl, hbl, g1, g2, g3⟩ := R3.out.later hb j (by omega)
      have hj0 : (0 : Int) ≤ (j : Int) := by omega
      have hjl : (j : Int) < (len : Int) := by omega
      have hjk : (j : Int) < (k : Int) := by omega
      go_wp2_with fail
      refine (ref_any (ty j) (rl j) (wc j) wr).mono ?_
      rintro e w5 ⟨q, rfl, hq, b5⟩
      have hrow2 := hrow.later b5
      have hb3 : Below w3.heap.size w3 w5 := hb.trans (b5.mono hb.size)
      have HQ := hid hq
      clear hrow b5 hb hq g1 g2 g3
      go_wp2_with (at_builtin; refine wpList_append_own _ rfl _ _ 27 rfl w3.heap.size 31 i0 _ 4 56 Try.underlying27 hi0 hz0 hz1 hz2 rfl (by decide) _ _ _ rfl (hrow2.alloc _) ⟨w5.heap.size, 0, none⟩ 1 1 (four (ty j, rl j, q)) rfl rfl (new_cells w5 (ty j, rl j, q)) (four_one _) (by rw [HL.out]; unfold maxLen; omega) (by rw [HL.out]; omega) (by have := hb3.size; simp; omega) ?_; intro v' w6 hown6 hgrow6 _)
      have hb4 : Below w3.heap.size w3 w6 := (hb3.alloc hb3.size _).grown hgrow6 (by have := hb3.size; simp; omega) (fun k hk => hrow2.own k hk)
      have hrow3 : Row w6 w3.heap.size v' (l ++ [(ty j, rl j, q)]) := Row.snoc hown6
      have hpl3 : plainOf (l ++ [(ty j, rl j, q)]) = Plain.kinds (fun i => (ty i, rl i, wc i)) 0 (j + 1) := by
        rw [plainOf_snoc, hpl.out, Plain.kinds_succ]
        simp only [HQ.out, Nat.zero_add]
      exact ⟨⟨j + 1, l ++ [(ty j, rl j, q)], by omega, by go_num, hrow3, hpl3, hb4⟩, by simp [intOf]; omega⟩
    · have e : j = k := by omega
      subst e
      obtain ⟨x0, x1, x2, x3, x4, x5⟩ := (X3.out.later hb)
      clear x3 x4 x5
      go_wp2_with fail
      refine (ref_any ut ur (ui.toList == [42]) wr).mono ?_
      rintro e w5 ⟨q, rfl, hq, b5⟩
      have hrow2 := hrow.later b5
      have hb3 : Below w3.heap.size w3 w5 := hb.trans (b5.mono hb.size)
      have HQ := hid hq
      clear hrow b5 hb hq x0 x1 x2
      go_wp2_with (at_builtin; refine wpList_append_own _ rfl _ _ 27 rfl w3.heap.size 31 i0 _ 4 56 Try.underlying27 hi0 hz0 hz1 hz2 rfl (by decide) _ _ _ rfl (hrow2.alloc _) ⟨w5.heap.size, 0, none⟩ 1 1 (four (ut, ur, q)) rfl rfl (new_cells w5 (ut, ur, q)) (four_one _) (by rw [HL.out]; unfold maxLen; omega) (by rw [HL.out]; omega) (by have := hb3.size; simp; omega) ?_; intro v' w6 hown6 hgrow6 _)
      have hb4 : Below w3.heap.size w3 w6 := (hb3.alloc hb3.size _).grown hgrow6 (by have := hb3.size; simp; omega) (fun k hk => hrow2.own k hk)
      have hrow3 : Row w6 w3.heap.size v' (l ++ [(ut, ur, q)]) := Row.snoc hown6
      have hpl3 : Hid (plainOf (l ++ [(ut, ur, q)]) = Plain.kinds (fun i => (ty i, rl i, wc i)) 0 j ++ (ut, ur, ui.toList == [42]) :: Plain.kinds (fun i => (ty i, rl i, wc i)) j 0) := by
        show plainOf (l ++ [(ut, ur, q)]) = _
        rw [plainOf_snoc, hpl.out, Plain.kinds_zero]
        simp only [HQ.out]
      generalize l ++ [(ut, ur, q)] = l2 at hrow3 hpl3
      clear hown6 hgrow6 hrow2 hb3 HQ HL hpl b4 row4
      go_loopw [18, 20] (fun v i wr => ∃ m l, j ≤ m ∧ m ≤ len ∧ i = .int .i64 (m : Nat) ∧ Row wr w3.heap.size v l ∧ Hid (plainOf l = Plain.kinds (fun i => (ty i, rl i, wc i)) 0 j ++ (ut, ur, ui.toList == [42]) :: Plain.kinds (fun i => (ty i, rl i, wc i)) j (m - j)) ∧ Below w3.heap.size w3 wr) (fun _ i _ => len - (intOf i).toNat)
      case atStart => exact ⟨j, l2, Nat.le_refl _, hk, rfl, hrow3, by rw [Nat.sub_self]; exact hpl3, hb4⟩
      case round =>
        clear hrow3 hpl3 hb4
        obtain ⟨m, l, hm1, hm2, rfl, hrow, hpl, hb⟩ := hrel
        have HL : Hid (l.length = m + 1) := by
          refine (len_of hpl.out).trans ?_
          simp only [List.length_append, List.length_cons, Plain.kinds_length]
          omega
        by_cases hlt2 : m < len
        · obtain ⟨b, off, rfl, hbl, g1, g2, g3⟩ := R3.out.later hb m (by omega)
          have hj0 : (0 : Int) ≤ (m : Int) := by omega
          have hjl : (m : Int) < (len : Int) := by omega
          go_wp2_with fail
          refine (ref_any (ty m) (rl m) (wc m) wr).mono ?_
          rintro e w7 ⟨q, rfl, hq, b5⟩
          have hrow2 := hrow.later b5
          have hb3 : Below w3.heap.size w3 w7 := hb.trans (b5.mono hb.size)
          have HQ := hid hq
          clear hrow b5 hb hq g1 g2 g3
          go_wp2_with (at_builtin; refine wpList_append_own _ rfl _ _ 27 rfl w3.heap.size 31 i0 _ 4 56 Try.underlying27 hi0 hz0 hz1 hz2 rfl (by decide) _ _ _ rfl (hrow2.alloc _) ⟨w7.heap.size, 0, none⟩ 1 1 (four (ty m, rl m, q)) rfl rfl (new_cells w7 (ty m, rl m, q)) (four_one _) (by rw [HL.out]; unfold maxLen; omega) (by rw [HL.out]; omega) (by have := hb3.size; simp; omega) ?_; intro v'' w8 hown8 hgrow8 _)
          have hb4 : Below w3.heap.size w3 w8 := (hb3.alloc hb3.size _).grown hgrow8 (by have := hb3.size; simp; omega) (fun k hk => hrow2.own k hk)
          have hrow3 : Row w8 w3.heap.size v'' (l ++ [(ty m, rl m, q)]) := Row.snoc hown8
          have hpl3 : Hid (plainOf (l ++ [(ty m, rl m, q)]) = Plain.kinds (fun i => (ty i, rl i, wc i)) 0 j ++ (ut, ur, ui.toList == [42]) :: Plain.kinds (fun i => (ty i, rl i, wc i)) j (m + 1 - j)) := by
            show plainOf (l ++ [(ty m, rl m, q)]) = _
            rw [plainOf_snoc, hpl.out, show m + 1 - j = (m - j) + 1 from by omega, Plain.kinds_succ, show j + (m - j) = m from by omega]
            simp only [HQ.out, List.append_assoc, List.cons_append]
          exact ⟨⟨m + 1, l ++ [(ty m, rl m, q)], by omega, by omega, by go_num, hrow3, hpl3, hb4⟩, by simp [intOf]; omega⟩
        · have e : m = len := by omega
          subst e
          go_wp2_with fail
          have HLP := hid (law_plain td rn ot rel ut ui ur vt vi vr _ j m hm1 l l1 hpl.out P1.out)
          have L1 : Hid (l1.length = m) := (len_of P1.out).trans (Plain.kinds_length _ _ _)
          have W1' := hid (W1.out.later hb)
          have O4 := hid (O3.out.next hb)
          have X4 := hid (X3.out.later hb)
          have W2 := hid hrow
          clear R3 P1 hpl hrow hb W1 O3 X3 hk hkl hm2 hlt2 hlt hj hi0 hz0 hz1 hz2
          refine (model_row td rn wr W1'.out).mono ?_
          rintro e w7 ⟨M1, T1, D1, E1, Q1, rfl, m1, b7⟩
          have O7 := hid (O4.out.next b7)
          have X7 := hid (X4.out.later b7)
          have V1 := hid (W1'.out.later b7)
          have V2 := hid (W2.out.later b7)
          have A1 := hid m1
          clear b7 m1 O4 X4 W1' W2
          go_wp2_with fail
          refine (model_row td rn w7 V2.out).mono ?_
          rintro e w8 ⟨M2, T2, D2, E2, Q2, rfl, m2, b8⟩
          have O8 := hid (O7.out.next b8)
          have X8 := hid (X7.out.later b8)
          have U1 := hid (V1.out.later b8)
          have U2 := hid (V2.out.later b8)
          have C1 := hid (A1.out.later b8)
          have C2 := hid m2
          clear b8 m2 O7 X7 V1 V2 A1
          obtain ⟨x0, x1, x2, x3, x4, x5⟩ := X8.out
          go_wp2_with fail
          refine (user_any ut ui ur w8).mono ?_
          rintro e w9 ⟨rfl, b9⟩
          clear x0 x1 x2 x3 x4 x5
          have O9 := hid (O8.out.next b9)
          have X9 := hid (X8.out.later b9)
          have Y1 := hid (U1.out.later b9)
          have Y2 := hid (U2.out.later b9)
          have G1 := hid (C1.out.later b9)
          have G2 := hid (C2.out.later b9)
          clear b9 O8 X8 U1 U2 C1 C2
          go_wp2_with fail
          refine (allows_any td rn ut ui ur w9 G2.out Y2.out (by rw [HL.out]; omega)).mono ?_
          rintro e w10 ⟨rfl, b10⟩
          rw [HLP.out.1]
          have O10 := hid (O9.out.next b10)
          have X10 := hid (X9.out.later b10)
          have Z1 := hid (Y1.out.later b10)
          have Z2 := hid (Y2.out.later b10)
          have J1 := hid (G1.out.later b10)
          have J2 := hid (G2.out.later b10)
          clear b10 O9 X9 Y1 Y2 G1 G2
          obtain ⟨x0, x1, x2, x3, x4, x5⟩ := X10.out
          go_wp2_with fail
          refine (user_any vt vi vr w10).mono ?_
          rintro e w11 ⟨rfl, b11⟩
          clear x0 x1 x2 x3 x4 x5
          have O11 := hid (O10.out.next b11)
          have X11 := hid (X10.out.later b11)
          have Y1 := hid (Z1.out.later b11)
          have Y2 := hid (Z2.out.later b11)
          have G1 := hid (J1.out.later b11)
          have G2 := hid (J2.out.later b11)
          clear b11 O10 X10 Z1 Z2 J1 J2
          go_wp2_with fail
          refine (allows_any ot rel vt vi vr w11 G1.out Y1.out (by rw [L1.out]; omega)).mono ?_
          rintro e w12 ⟨rfl, b12⟩
          have O12 := hid (O11.out.next b12)
          have X12 := hid (X11.out.later b12)
          have Z2 := hid (Y2.out.later b12)
          have J2 := hid (G2.out.later b12)
          clear b12 O11 X11 Y1 Y2 G1 G2
          have HB := hid HLP.out.2
          generalize Plain.au td rn (plainOf l1) ot rel vt vi vr = B1 at HB ⊢
          obtain ⟨x0, x1, x2, x3, x4, x5⟩ := X12.out
          go_wp2_with fail
          refine (user_any vt vi vr w12).mono ?_
          rintro e w13 ⟨rfl, b13⟩
          clear x0 x1 x2 x3 x4 x5
          have O13 := hid (O12.out.next b13)
          have X13 := hid (X12.out.later b13)
          have Y2 := hid (Z2.out.later b13)
          have G2 := hid (J2.out.later b13)
          clear b13 O12 X12 Z2 J2
          go_wp2_with fail
          refine (allows_any ot rel vt vi vr w13 G2.out Y2.out (by rw [HL.out]; omega)).mono ?_
          rintro e w14 ⟨rfl, b14⟩
          have O14 := hid (O13.out.next b14)
          have X14 := hid (X13.out.later b14)
          clear b14 O13 X13 Y2 G2
          rw [HB.out]
          clear HB HLP
          obtain ⟨x0, x1, x2, x3, x4, x5⟩ := X14.out
          cases h1 : (ot.toList == td.toList) with
          | false => cases B1 <;> (go_wp2_with fail; go_ret; exact ⟨rfl, O14.out.below⟩)
          | true =>
            cases h2 : (rel.toList == rn.toList) with
            | false => cases B1 <;> (go_wp2_with fail; go_ret; exact ⟨rfl, O14.out.below⟩)
            | true =>
              cases h3 : (ut.toList == vt.toList) with
              | false => cases B1 <;> (go_wp2_with fail; go_ret; exact ⟨rfl, O14.out.below⟩)
              | true =>
                cases h4 : (ur.toList == vr.toList) with
                | false => cases B1 <;> (go_wp2_with fail; go_ret; exact ⟨rfl, O14.out.below⟩)
                | true =>
                  cases h5 : (ui.toList == [42]) <;> cases h6 : (vi.toList == [42]) <;> cases B1 <;> (go_wp2_with fail; go_ret; exact ⟨rfl, O14.out.below⟩)

set_option maxHeartbeats 4000000 in
set_option maxRecDepth 100000 in
theorem walk (td rn ot rel ut ui ur vt vi vr : ByteArray) (a : Option Addr) (len cap : Nat) (k : Int) (ty rl : Nat → ByteArray) (wc : Nat → Bool) (w : World) (hr : Refs w a len ty rl wc) (hm : len ≤ maxLen) :
    Calls Try.prog 3 #[.string td, .string rn, .slice a len cap, .int .i64 k, .agg #[.string ut, .string ui, .string ur], .string ot, .string rel, .agg #[.string vt, .string vi, .string vr]] w fun e w' =>
      e = .returned (.bool true) ∧ Below w.heap.size w w' := by
  by_cases hs : len ≤ 65536 ∧ 0 ≤ k ∧ k ≤ (len : Int)
  · obtain ⟨hl, h0, h1⟩ := hs
    obtain ⟨n, rfl⟩ := Int.eq_ofNat_of_zero_le h0
    exact walk_main td rn ot rel ut ui ur vt vi vr a len cap n ty rl wc w hr hl (by omega)
  have HS := hid hs
  have HR := hid hr
  have HM := hid hm
  unfold maxLen at hm
  clear hr hs
  go_enter Try.func3, Try.ntmps3
  go_wp2_with fail
  have hbW : Below w.heap.size w ((w.alloc (.cells #[.string ut, .string ui, .string ur] 24)).alloc (.cells #[.string vt, .string vi, .string vr] 24)) := below_alloc2 _ _ _
  have HRW := hid (HR.out.later hbW)
  have HO := hid (On.mk hbW hbW.size)
  have HX : Hid (Boxes ((w.alloc (.cells #[.string ut, .string ui, .string ur] 24)).alloc (.cells #[.string vt, .string vi, .string vr] 24)) w.heap.size (w.heap.size + 1) ut ui ur vt vi vr) := by
    obtain ⟨x0, x1, x2, x3, x4, x5⟩ := two_boxes w (.string ut) (.string ui) (.string ur) (.string vt) (.string vi) (.string vr) 24 24
    exact ⟨x0, x1, x2, x3, x4, x5⟩
  clear hbW HR
  generalize w.heap.size = p at HX ⊢
  generalize (w.alloc (.cells #[.string ut, .string ui, .string ur] 24)).alloc (.cells #[.string vt, .string vi, .string vr] 24) = W at HO HRW HX ⊢
  refine (bytes1_any td rn ot rel ut ui ur vt vi vr a len cap k ty rl wc W HRW.out HM.out).mono ?_
  rintro e w1 ⟨⟨b, rfl⟩, b1⟩
  have O1 := hid (HO.out.next b1)
  have R1 := hid (HRW.out.later b1)
  have X1 := hid (HX.out.later b1)
  clear b1 HRW HX HO
  cases b
  · go_wp2_with fail
    go_ret
    exact ⟨rfl, O1.out.below⟩
  by_cases hl : (65536 : Int) < (len : Int)
  · go_wp2_with fail
    go_ret
    exact ⟨rfl, O1.out.below⟩
  obtain ⟨x0, x1, x2, x3, x4, x5⟩ := X1.out
  go_wp2_with fail
  refine (bytes_any td rn ot rel ut ui ur vt vi vr a len cap ty rl wc w1 R1.out (by omega)).mono ?_
  rintro e w2 ⟨⟨r, rfl⟩, b2⟩
  have O2 := hid (O1.out.next b2)
  clear b2 R1 X1 O1 x0 x1 x2 x3 x4 x5
  by_cases hrl : 1048576 < r
  · go_wp2_with fail
    go_ret
    exact ⟨rfl, O2.out.below⟩
  by_cases hk0 : k < 0
  · go_wp2_with fail
    go_ret
    exact ⟨rfl, O2.out.below⟩
  have hk1 : (len : Int) < k := by have := HS.out; omega
  go_wp2_with fail
  go_ret
  exact ⟨rfl, O2.out.below⟩

/-! ### THE ROW's STEP -/
set_option maxRecDepth 100000 in
theorem lifted (os : Os) (started : os.Started) (H : Type) (enc : TypeId × Value → H) :
    ReturnsInHanded {} Try.checked os 3 .any (Rows.fnAllowsUserAdmitsInsertedKindSpec.pre6 enc Try.prog Try.f3 Rows.fnAllowsUserAdmitsInsertedKindRow.domain false) (Rows.fnAllowsUserAdmitsInsertedKindSpec.post enc Try.prog Try.f3 false true false false) := by
  refine returnsInHanded_of_change (C := Try.checked) own started (by kernel_rfl) Try.func3
    (ChangeSpec.witness6 (enc := enc) (C := Try.checked) false ⟨#[], #[.string ByteArray.empty, .string ByteArray.empty, .slice none 0 0, .int .i64 0, .agg #[.string ByteArray.empty, .string ByteArray.empty, .string ByteArray.empty], .string ByteArray.empty, .string ByteArray.empty, .agg #[.string ByteArray.empty, .string ByteArray.empty, .string ByteArray.empty]], []⟩ 8 (by kernel_rfl) (by kernel_rfl) (by kernel_rfl) (by kernel_rfl)) ?_
  intro W base args ds gs before hval0 hW hcnd _
  have hval : ∀ (j : Nat) t v, Try.f3.params[j]? = some t → args[j]? = some v → Value.okWide Try.prog W .any base t v := hval0
  have hW' := hW
  obtain ⟨p, q, hA0, hV, rfl, hfz, hnd⟩ := hW
  have hA : DataW.TrodAll enc Try.prog W 0 (fun _ => true) true Try.f3.params.toList args.toList ds p := hA0
  rw [Try.params3] at hA hval
  obtain ⟨v0, vs0, d0, ds0, p0, q0, hargs, rfl, rfl, h0, r0⟩ := trodAll_cons hA
  obtain ⟨v1, vs1, d1, ds1, p1, q1, rfl, rfl, rfl, h1, r1⟩ := trodAll_cons r0
  obtain ⟨v2, vs2, d2, ds2, p2, q2, rfl, rfl, rfl, h2, r2⟩ := trodAll_cons r1
  obtain ⟨v3, vs3, d3, ds3, p3, q3, rfl, rfl, rfl, h3, r3⟩ := trodAll_cons r2
  obtain ⟨v4, vs4, d4, ds4, p4, q4, rfl, rfl, rfl, h4, r4⟩ := trodAll_cons r3
  obtain ⟨v5, vs5, d5, ds5, p5, q5, rfl, rfl, rfl, h5, r5⟩ := trodAll_cons r4
  obtain ⟨v6, vs6, d6, ds6, p6, q6, rfl, rfl, rfl, h6, r6⟩ := trodAll_cons r5
  obtain ⟨v7, vs7, d7, ds7, p7, q7, rfl, rfl, rfl, h7, r7⟩ := trodAll_cons r6
  obtain ⟨rfl, rfl, rfl⟩ := trodAll_nil r7
  obtain rfl : args = #[v0, v1, v2, v3, v4, v5, v6, v7] := by cases args; simp_all
  obtain ⟨rfl, rfl⟩ := trodVars_none hV
  obtain ⟨td, rfl, rfl, rfl, w0⟩ := open_string Try.underlying9 (hval 0 9 v0 rfl rfl) h0
  obtain ⟨rn, rfl, rfl, rfl, w1⟩ := open_string Try.underlying9 (hval 1 9 v1 rfl rfl) h1
  obtain ⟨a2, len2, cap2, rfl⟩ := okWide_slice Try.underlying22 (hval 2 22 v2 rfl rfl)
  have k2 := h2
  have lt2 : ∀ x ∈ p2, x.block < W.heap.size := by obtain ⟨m, hm⟩ := k2; exact DataW.trod_lt m _ _ _ hm
  obtain ⟨hm2, ty, rl, wc, hr2⟩ := open_refs h2
  obtain ⟨a3, rfl, rfl, rfl, w3⟩ := open_int Try.underlying3 (hval 3 3 v3 rfl rfl) h3
  obtain ⟨ut, ui, ur, rfl⟩ := open_user (hval 4 24 v4 rfl rfl) h4
  have lt4 : ∀ x ∈ p4, x.block < W.heap.size := by obtain ⟨m, hm⟩ := h4; exact DataW.trod_lt m _ _ _ hm
  obtain ⟨ot, rfl, rfl, rfl, w5⟩ := open_string Try.underlying9 (hval 5 9 v5 rfl rfl) h5
  obtain ⟨rel, rfl, rfl, rfl, w6⟩ := open_string Try.underlying9 (hval 6 9 v6 rfl rfl) h6
  obtain ⟨vt, vi, vr, rfl⟩ := open_user (hval 7 24 v7 rfl rfl) h7
  have lt7 : ∀ x ∈ p7, x.block < W.heap.size := by obtain ⟨m, hm⟩ := h7; exact DataW.trod_lt m _ _ _ hm
  clear hA0 hval0
  refine (walk td rn ot rel ut ui ur vt vi vr a2 len2 cap2 a3 ty rl wc W hr2 hm2).mono fun e W' ⟨he, bel⟩ => ?_
  subst he
  exact ⟨_, rfl, _, _, _, [], _, [], hW', trodAll_mk1 (shut_bool Try.underlying4 _),
    (trodAll_cons_mk (shut_string Try.underlying9 w0) (trodAll_cons_mk (shut_string Try.underlying9 w1)
      (trodAll_cons_mk (Below.trod laidOut (by kernel_rfl) (of_decide_eq_true (by kernel_rfl)) k2 bel lt2) (trodAll_cons_mk (shut_int Try.underlying3 w3)
        (trodAll_cons_mk (Below.trod laidOut (by kernel_rfl) (of_decide_eq_true (by kernel_rfl)) h4 bel lt4) (trodAll_cons_mk (shut_string Try.underlying9 w5) (trodAll_cons_mk (shut_string Try.underlying9 w6)
          (trodAll_cons_mk (Below.trod laidOut (by kernel_rfl) (of_decide_eq_true (by kernel_rfl)) h7 bel lt7) trodAll_mk0)))))))), rfl, bel.frame _, fun h => by cases h⟩

theorem over : Rows.fnAllowsUserAdmitsInsertedKindRow.holds Try.pinned (OpenSpec.ofChange Rows.fnAllowsUserAdmitsInsertedKindSpec) :=
  OpenClaim.holds_of_wide 3 Try.f3 rfl rfl rfl rfl rfl rfl rfl ⟨rfl, rfl, rfl, rfl, rfl⟩ rfl rfl rfl rfl rfl (by kernel_rfl) Try.func3 (by kernel_rfl)
    (of_decide_eq_true (by kernel_rfl)) (by unfold Func.isWrapper; first | (rw [if_pos (by decide +kernel)]; kernel_rfl) | (rw [if_neg (by decide +kernel)]; exact ⟨rfl, rfl⟩))
    (fun os started H enc _ => lifted os started H enc)

/-- THE STATEMENT -/
theorem proved : Rows.FnAllowsUserAdmitsInsertedKindSaid := over
#print axioms proved
end Go.Proofs.Qxb6627563a.fnAllowsUserAdmitsInsertedKind
