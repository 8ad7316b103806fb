import Derived.Test.Qxb6627563aRows
import Derived.Test.Qxb6627563aOpen
namespace Go.Proofs.Qxb6627563a.fnAllowsUserJoinIsOrAndEachKindAdmitted
open Go.ChangeShapes Go.WideShapes Go.ChangeAt Go.RowKit Go.Joins Go.Deep
open Go.ChangeMaps (open_string shut_string)
set_option linter.unusedVariables false

/-- the user, boxed -/
structure Box (w : World) (p : Nat) (vt vi vr : ByteArray) : Prop where
  x0 : w.cell? ⟨p, 0, none⟩ = some (.string vt)
  x1 : w.cell? ⟨p, 1, none⟩ = some (.string vi)
  x2 : w.cell? ⟨p, 2, none⟩ = some (.string vr)

theorem Box.later {w w' : World} {p : Nat} {vt vi vr : ByteArray} (h : Box w p vt vi vr) (hb : Below w.heap.size w w') : Box w' p vt vi vr where
  x0 := by rw [hb.cell (World.block_lt_of_cell? _ _ h.x0)]; exact h.x0
  x1 := by rw [hb.cell (World.block_lt_of_cell? _ _ h.x1)]; exact h.x1
  x2 := by rw [hb.cell (World.block_lt_of_cell? _ _ h.x2)]; exact h.x2

/-- a world on the way: nothing below p has turned -/
structure On (p : Nat) (w a : World) : Prop where
  below : Below p w a
  le : p ≤ a.heap.size

theorem On.next {p : Nat} {w a b : World} (h : On p w a) (hb : Below a.heap.size a b) : On p w b :=
  ⟨h.below.trans (hb.mono h.le), Nat.le_trans h.le hb.size⟩

theorem len_of {l : List (ByteArray × ByteArray × Option Addr)} {m : List (ByteArray × ByteArray × Bool)} (h : plainOf l = m) : l.length = m.length := by
  rw [← h]; simp [plainOf]

theorem refs_zero (a : Option Addr) (len cap hi : Nat) (ty rl : Nat → ByteArray) (wc : Nat → Bool) (w : World) (hr : Refs w a len ty rl wc) (hl : len ≤ 65536) (h2 : hi ≤ len) :
    Calls Try.prog 7 #[.slice a len cap, .int .i64 0, .int .i64 hi] w fun e w' =>
      ∃ v l, e = .returned v ∧ Row w' w.heap.size v l ∧ plainOf l = Plain.kinds (fun i => (ty i, rl i, wc i)) 0 hi ∧ Below w.heap.size w w' :=
  refs_any a len cap 0 hi ty rl wc w hr hl (Nat.zero_le _) h2

/-- zzModel over a row of the call's own -/
theorem model_row (td rn : ByteArray) {base : Nat} {v : Value} {l : List (ByteArray × ByteArray × Option Addr)} (w : World) (hr : Row w base v l) :
    Calls Try.prog 9 #[.string td, .string rn, v] w fun e w' =>
      ∃ M T D Me R, e = .returned (.pointer (some ⟨M, 0, none⟩)) ∧ ModelAt w' M T D Me R td rn v ∧ Below w.heap.size w w' := by
  obtain ⟨_, ⟨rfl, _⟩ | ⟨g, cap, cur, rfl, _⟩⟩ := hr
  · exact model_any td rn none 0 0 w
  · exact model_any td rn _ _ _ w

/-- the plain law at the lists that the walk has made -/
theorem join_plain (td rn ot rel vt vi vr : ByteArray) (g : Nat → ByteArray × ByteArray × Bool) (c m : Nat) (hc : c ≤ m) (l0 l1 l2 : List (ByteArray × ByteArray × Option Addr))
    (h0 : plainOf l0 = Plain.kinds g 0 m) (h1 : plainOf l1 = Plain.kinds g 0 c) (h2 : plainOf l2 = Plain.kinds g c (m - c)) :
    Plain.au td rn (plainOf l0) ot rel vt vi vr = (Plain.au td rn (plainOf l1) ot rel vt vi vr || Plain.au td rn (plainOf l2) ot rel vt vi vr) := by
  have e : plainOf l0 = plainOf l1 ++ plainOf l2 := by
    have := Plain.kinds_append g 0 c (m - c)
    rw [Nat.zero_add, show c + (m - c) = m from by omega] at this
    rw [h0, this, h1, h2]
  rw [e]
  exact Plain.au_join _ _ _ _ _ _ _ _ _

theorem star_size {s : ByteArray} (h : (s.toList == [42]) = true) : s.size = 1 := by
  have e : s.data.toList = [42] := by rw [← ByteArray.toList_eq]; simpa using h
  have := congrArg List.length e
  simpa using this
theorem star_x {s : ByteArray} (h : (s.toList == [42]) = true) : ((s ++ { data := #[120] }).toList == [42]) = false := by
  have e : s.data.toList = [42] := by rw [← ByteArray.toList_eq]; simpa using h
  have e2 : (s ++ { data := #[120] }).toList = [42, 120] := by
    rw [ByteArray.toList_eq, ByteArray.data_append, Array.toList_append, e]
    rfl
  rw [e2]
  decide

theorem star : (({ data := #[42] } : ByteArray).toList == [42]) = true := by decide +kernel

theorem own_mem {l : List (ByteArray × ByteArray × Option Addr)} {g : Nat → ByteArray × ByteArray × Bool} {m k : Nat} (h : plainOf l = Plain.kinds g 0 m) (hk : k < m) : g k ∈ plainOf l := by
  rw [h]; exact Plain.kinds_mem g m k hk

set_option maxHeartbeats 16000000 in
set_option maxRecDepth 100000 in
theorem walk_main (td rn ot rel vt vi vr : ByteArray) (a : Option Addr) (len cap c : Nat) (ty rl : Nat → ByteArray) (wc : Nat → Bool) (w : World) (hr : Refs w a len ty rl wc) (hl : len ≤ 4096) (hc : c ≤ len) :
    Calls Try.prog 4 #[.string td, .string rn, .slice a len cap, .int .i64 c, .string ot, .string rel, .agg #[.string vt, .string vi, .string vr]] w fun e w' =>
      e = .returned (.bool true) ∧ Below w.heap.size w w' := by
  have HR := hid hr
  clear hr
  go_enter Try.func4, Try.ntmps4
  go_wp2_with fail
  have hbW : Below w.heap.size w (w.alloc (.cells #[.string vt, .string vi, .string vr] 24)) := (Below.refl _ _).alloc (Nat.le_refl _) _
  have HRW := hid (HR.out.later hbW)
  have HO := hid (On.mk hbW hbW.size)
  have HX : Hid (Box (w.alloc (.cells #[.string vt, .string vi, .string vr] 24)) w.heap.size vt vi vr) := by
    obtain ⟨x0, x1, x2⟩ := one_box w (.string vt) (.string vi) (.string vr) 24
    exact ⟨x0, x1, x2⟩
  clear hbW HR
  generalize w.heap.size = p at HX ⊢
  generalize w.alloc (.cells #[.string vt, .string vi, .string vr] 24) = W at HO HRW HX ⊢
  refine (bytes2_any td rn ot rel vt vi vr a len cap c ty rl wc W HRW.out (by unfold maxLen; omega)).mono ?_
  rintro e w1 ⟨⟨b, rfl⟩, b1⟩
  have O1 := hid (HO.out.next b1)
  have R1 := hid (HRW.out.later b1)
  have X1 := hid (HX.out.later b1)
  clear b1 HRW HX HO
  cases b
  · go_wp2_with fail
    go_ret
    exact ⟨rfl, O1.out.below⟩
  obtain ⟨x0, x1, x2⟩ := X1.out
  go_wp2_with fail
  refine (bytes_any td rn ot rel ⟨#[]⟩ ⟨#[]⟩ ⟨#[]⟩ vt vi vr a len cap ty rl wc w1 R1.out (by omega)).mono ?_
  rintro e w2 ⟨⟨r, rfl⟩, b2⟩
  have O2 := hid (O1.out.next b2)
  have R2 := hid (R1.out.later b2)
  have X2 := hid (X1.out.later b2)
  clear b2 R1 X1 O1 x0 x1 x2
  by_cases hrl : 1048576 < r
  · go_wp2_with fail
    go_ret
    exact ⟨rfl, O2.out.below⟩
  have hk0 : (0 : Int) ≤ (c : Int) := by omega
  have hkl : (c : Int) ≤ (len : Int) := by omega
  go_wp2_with fail
  refine (refs_zero a len cap len ty rl wc w2 R2.out (by omega) (Nat.le_refl _)).mono ?_
  rintro e w3 ⟨v0, l0, rfl, row0, pl0, b3⟩
  have O3 := hid (O2.out.next b3)
  have R3 := hid (R2.out.later b3)
  have X3 := hid (X2.out.later b3)
  have F0 := hid row0
  have P0 := hid pl0
  clear b3 R2 X2 O2 row0 pl0
  go_wp2_with fail
  refine (model_row td rn w3 F0.out).mono ?_
  rintro e w4 ⟨M0, T0, D0, E0, Q0, rfl, m0, b4⟩
  have O4 := hid (O3.out.next b4)
  have R4 := hid (R3.out.later b4)
  have X4 := hid (X3.out.later b4)
  have F0' := hid (F0.out.later b4)
  have A0 := hid m0
  clear b4 m0 R3 X3 O3 F0
  go_wp2_with fail
  refine (refs_zero a len cap c ty rl wc w4 R4.out (by omega) hc).mono ?_
  rintro e w5 ⟨v1, l1, rfl, row1, pl1, b5⟩
  have O5 := hid (O4.out.next b5)
  have R5 := hid (R4.out.later b5)
  have X5 := hid (X4.out.later b5)
  have F0 := hid (F0'.out.later b5)
  have A0' := hid (A0.out.later b5)
  have F1 := hid row1
  have P1 := hid pl1
  clear b5 R4 X4 O4 row1 pl1 A0 F0'
  go_wp2_with fail
  refine (model_row td rn w5 F1.out).mono ?_
  rintro e w6 ⟨M1, T1, D1, E1, Q1, rfl, m1, b6⟩
  have O6 := hid (O5.out.next b6)
  have R6 := hid (R5.out.later b6)
  have X6 := hid (X5.out.later b6)
  have F0' := hid (F0.out.later b6)
  have A0 := hid (A0'.out.later b6)
  have F1' := hid (F1.out.later b6)
  have A1 := hid m1
  clear b6 m1 R5 X5 O5 F0 A0' F1
  go_wp2_with fail
  refine (refs_any a len cap c len ty rl wc w6 R6.out (by omega) hc (Nat.le_refl _)).mono ?_
  rintro e w7 ⟨v2, l2, rfl, row2, pl2, b7⟩
  have O7 := hid (O6.out.next b7)
  have R7 := hid (R6.out.later b7)
  have X7 := hid (X6.out.later b7)
  have F0 := hid (F0'.out.later b7)
  have A0' := hid (A0.out.later b7)
  have F1 := hid (F1'.out.later b7)
  have A1' := hid (A1.out.later b7)
  have F2 := hid row2
  have P2 := hid pl2
  clear b7 R6 X6 O6 row2 pl2 A0 F0' A1 F1'
  go_wp2_with fail
  refine (model_row td rn w7 F2.out).mono ?_
  rintro e w8 ⟨M2, T2, D2, E2, Q2, rfl, m2, b8⟩
  have O8 := hid (O7.out.next b8)
  have R8 := hid (R7.out.later b8)
  have X8 := hid (X7.out.later b8)
  have F0' := hid (F0.out.later b8)
  have A0 := hid (A0'.out.later b8)
  have F1' := hid (F1.out.later b8)
  have A1 := hid (A1'.out.later b8)
  have F2' := hid (F2.out.later b8)
  have A2 := hid m2
  clear b8 m2 R7 X7 O7 F0 A0' F1 A1' F2
  obtain ⟨x0, x1, x2⟩ := X8.out
  go_wp2_with fail
  refine (user_any vt vi vr w8).mono ?_
  rintro e w9 ⟨rfl, b9⟩
  clear x0 x1 x2
  have O9 := hid (O8.out.next b9)
  have R9 := hid (R8.out.later b9)
  have X9 := hid (X8.out.later b9)
  have F0 := hid (F0'.out.later b9)
  have A0' := hid (A0.out.later b9)
  have F1 := hid (F1'.out.later b9)
  have A1' := hid (A1.out.later b9)
  have F2 := hid (F2'.out.later b9)
  have A2' := hid (A2.out.later b9)
  clear b9 O8 R8 X8 F0' A0 F1' A1 F2' A2
  go_wp2_with fail
  have b10 : Below w9.heap.size w9 (w9.alloc (.cells #[.string vt, .string vi, .string vr] 38)) := (Below.refl _ _).alloc (Nat.le_refl _) _
  have Y : Hid (Box (w9.alloc (.cells #[.string vt, .string vi, .string vr] 38)) w9.heap.size vt vi vr) := by
    obtain ⟨x0, x1, x2⟩ := one_box w9 (.string vt) (.string vi) (.string vr) 38
    exact ⟨x0, x1, x2⟩
  have O10 := hid (O9.out.next b10)
  have R10 := hid (R9.out.later b10)
  have X10 := hid (X9.out.later b10)
  have F0' := hid (F0.out.later b10)
  have A0 := hid (A0'.out.later b10)
  have F1' := hid (F1.out.later b10)
  have A1 := hid (A1'.out.later b10)
  have F2' := hid (F2.out.later b10)
  have A2 := hid (A2'.out.later b10)
  clear b10 O9 R9 X9 F0 A0' F1 A1' F2 A2'
  generalize w9.heap.size = q at Y ⊢
  generalize w9.alloc (.cells #[.string vt, .string vi, .string vr] 38) = w10 at Y O10 R10 X10 F0' A0 F1' A1 F2' A2 ⊢
  have L0 : Hid (l0.length = len) := (len_of P0.out).trans (Plain.kinds_length _ _ _)
  have L1 : Hid (l1.length = c) := (len_of P1.out).trans (Plain.kinds_length _ _ _)
  have L2 : Hid (l2.length = len - c) := (len_of P2.out).trans (Plain.kinds_length _ _ _)
  have HJ := hid (join_plain td rn ot rel vt vi vr _ c len hc l0 l1 l2 P0.out P1.out P2.out)
  refine (allows_any ot rel vt vi vr w10 A0.out F0'.out (by rw [L0.out]; omega)).mono ?_
  rintro e w11 ⟨rfl, b11⟩
  have O11 := hid (O10.out.next b11)
  have R11 := hid (R10.out.later b11)
  have X11 := hid (X10.out.later b11)
  have Y11 := hid (Y.out.later b11)
  have F0 := hid (F0'.out.later b11)
  have A0' := hid (A0.out.later b11)
  have F1 := hid (F1'.out.later b11)
  have A1' := hid (A1.out.later b11)
  have F2 := hid (F2'.out.later b11)
  have A2' := hid (A2.out.later b11)
  clear b11 O10 R10 X10 Y F0' A0 F1' A1 F2' A2
  rw [HJ.out]
  clear HJ
  obtain ⟨y0, y1, y2⟩ := Y11.out
  go_wp2_with fail
  refine (allows_any ot rel vt vi vr w11 A1'.out F1.out (by rw [L1.out]; omega)).mono ?_
  rintro e w12 ⟨rfl, b12⟩
  clear y0 y1 y2
  have O12 := hid (O11.out.next b12)
  have R12 := hid (R11.out.later b12)
  have X12 := hid (X11.out.later b12)
  have Y12 := hid (Y11.out.later b12)
  have F0' := hid (F0.out.later b12)
  have A0 := hid (A0'.out.later b12)
  have F2' := hid (F2.out.later b12)
  have A2 := hid (A2'.out.later b12)
  clear b12 O11 R11 X11 Y11 F0 A0' F1 A1' F2 A2'
  generalize Plain.au td rn (plainOf l1) ot rel vt vi vr = B1
  obtain ⟨y0, y1, y2⟩ := Y12.out
  go_wp2_with fail
  refine (allows_any ot rel vt vi vr w12 A2.out F2'.out (by rw [L2.out]; omega)).mono ?_
  rintro e w13 ⟨rfl, b13⟩
  clear y0 y1 y2
  have O13 := hid (O12.out.next b13)
  have R13 := hid (R12.out.later b13)
  have X13 := hid (X12.out.later b13)
  have F0 := hid (F0'.out.later b13)
  have A0' := hid (A0.out.later b13)
  clear b13 O12 R12 X12 Y12 F0' A0 F2' A2 L1 L2 P1 P2
  generalize Plain.au td rn (plainOf l2) ot rel vt vi vr = B2
  obtain ⟨x0, x1, x2⟩ := X13.out
  cases B1
  · cases B2
    · cases hvi : (vi.toList == [42]) with
      | false =>
        have HO := hid hvi
        go_wp2_with fail
        clear x0 x1 x2 hvi
        go_loopw [23, 24] (fun i _ wr => ∃ k : Nat, k ≤ len ∧ i = .int .i64 k ∧ Below w13.heap.size w13 wr) (fun i _ _ => len - (intOf i).toNat)
        case atStart => exact ⟨0, by omega, rfl, Below.refl _ _⟩
        case round =>
          obtain ⟨k, hk, rfl, hb⟩ := hrel
          by_cases hlt : k < len
          · obtain ⟨b, off, rfl, hbl, g1, g2, g3⟩ := R13.out.later hb k hlt
            have i1 : (0 : Int) ≤ (k : Int) := by omega
            have i2 : (k : Int) < (len : Int) := by omega
            have hmem := hid (own_mem (g := fun i => (ty i, rl i, wc i)) P0.out hlt)
            go_wp2_with fail
            go_region
            cases hw : wc k with
            | false =>
              rw [hw] at g3
              have HA := hid (Plain.au_own td rn (plainOf l0) (ty k) (rl k) vi false (by have := hmem.out; rw [hw] at this; exact this) HO.out)
              clear hw hmem
              go_wp2_with fail
              refine (allows_any td rn (ty k) vi (rl k) _ (A0'.out.later (hb.trans (((Below.refl _ wr).alloc hb.size _).drew))) (F0.out.later (hb.trans (((Below.refl _ wr).alloc hb.size _).drew))) (by rw [L0.out]; omega)).mono ?_
              rintro e w14 ⟨rfl, b14⟩
              rw [HA.out]
              have hb14 : Below w13.heap.size w13 w14 := (hb.trans (((Below.refl _ wr).alloc hb.size _).drew)).trans (b14.mono (by have := hb.size; simp; omega))
              clear b14 g1 g2 g3
              go_wp2_with fail
              go_roundw
              case rel => exact ⟨k + 1, by omega, by go_num, hb14⟩
              case measure => simp [intOf]; omega
            | true =>
              rw [hw] at g3
              have HA := hid (Plain.au_own td rn (plainOf l0) (ty k) (rl k) ⟨#[42]⟩ true (by have := hmem.out; rw [hw] at this; exact this) star)
              clear hw hmem
              go_wp2_with fail
              refine (allows_any td rn (ty k) ⟨#[42]⟩ (rl k) _ (A0'.out.later (hb.trans (((Below.refl _ wr).alloc hb.size _).drew))) (F0.out.later (hb.trans (((Below.refl _ wr).alloc hb.size _).drew))) (by rw [L0.out]; omega)).mono ?_
              rintro e w14 ⟨rfl, b14⟩
              rw [HA.out]
              have hb14 : Below w13.heap.size w13 w14 := (hb.trans (((Below.refl _ wr).alloc hb.size _).drew)).trans (b14.mono (by have := hb.size; simp; omega))
              clear b14 g1 g2 g3
              go_wp2_with fail
              go_roundw
              case rel => exact ⟨k + 1, by omega, by go_num, hb14⟩
              case measure => simp [intOf]; omega
          · go_wp2_with fail
            go_ret
            exact ⟨rfl, O13.out.below.trans (hb.mono O13.out.le)⟩
      | true =>
        have hvs : vi.size = 1 := star_size hvi
        have hv1 : vi.size ≤ 1 := by omega
        clear hvs
        have hox := star_x hvi
        have HO := hid hox
        clear hox
        go_wp2_with fail
        clear x0 x1 x2 hvi hv1
        generalize vi ++ ({ data := #[120] } : ByteArray) = oid at HO ⊢
        go_loopw [23, 24] (fun i _ wr => ∃ k : Nat, k ≤ len ∧ i = .int .i64 k ∧ Below w13.heap.size w13 wr) (fun i _ _ => len - (intOf i).toNat)
        case atStart => exact ⟨0, by omega, rfl, Below.refl _ _⟩
        case round =>
          obtain ⟨k, hk, rfl, hb⟩ := hrel
          by_cases hlt : k < len
          · obtain ⟨b, off, rfl, hbl, g1, g2, g3⟩ := R13.out.later hb k hlt
            have i1 : (0 : Int) ≤ (k : Int) := by omega
            have i2 : (k : Int) < (len : Int) := by omega
            have hmem := hid (own_mem (g := fun i => (ty i, rl i, wc i)) P0.out hlt)
            go_wp2_with fail
            go_region
            cases hw : wc k with
            | false =>
              rw [hw] at g3
              have HA := hid (Plain.au_own td rn (plainOf l0) (ty k) (rl k) oid false (by have := hmem.out; rw [hw] at this; exact this) HO.out)
              clear hw hmem
              go_wp2_with fail
              refine (allows_any td rn (ty k) oid (rl k) _ (A0'.out.later (hb.trans (((Below.refl _ wr).alloc hb.size _).drew))) (F0.out.later (hb.trans (((Below.refl _ wr).alloc hb.size _).drew))) (by rw [L0.out]; omega)).mono ?_
              rintro e w14 ⟨rfl, b14⟩
              rw [HA.out]
              have hb14 : Below w13.heap.size w13 w14 := (hb.trans (((Below.refl _ wr).alloc hb.size _).drew)).trans (b14.mono (by have := hb.size; simp; omega))
              clear b14 g1 g2 g3
              go_wp2_with fail
              go_roundw
              case rel => exact ⟨k + 1, by omega, by go_num, hb14⟩
              case measure => simp [intOf]; omega
            | true =>
              rw [hw] at g3
              have HA := hid (Plain.au_own td rn (plainOf l0) (ty k) (rl k) ⟨#[42]⟩ true (by have := hmem.out; rw [hw] at this; exact this) star)
              clear hw hmem
              go_wp2_with fail
              refine (allows_any td rn (ty k) ⟨#[42]⟩ (rl k) _ (A0'.out.later (hb.trans (((Below.refl _ wr).alloc hb.size _).drew))) (F0.out.later (hb.trans (((Below.refl _ wr).alloc hb.size _).drew))) (by rw [L0.out]; omega)).mono ?_
              rintro e w14 ⟨rfl, b14⟩
              rw [HA.out]
              have hb14 : Below w13.heap.size w13 w14 := (hb.trans (((Below.refl _ wr).alloc hb.size _).drew)).trans (b14.mono (by have := hb.size; simp; omega))
              clear b14 g1 g2 g3
              go_wp2_with fail
              go_roundw
              case rel => exact ⟨k + 1, by omega, by go_num, hb14⟩
              case measure => simp [intOf]; omega
          · go_wp2_with fail
            go_ret
            exact ⟨rfl, O13.out.below.trans (hb.mono O13.out.le)⟩
    · cases hvi : (vi.toList == [42]) with
      | false =>
        have HO := hid hvi
        go_wp2_with fail
        clear x0 x1 x2 hvi
        go_loopw [23, 24] (fun i _ wr => ∃ k : Nat, k ≤ len ∧ i = .int .i64 k ∧ Below w13.heap.size w13 wr) (fun i _ _ => len - (intOf i).toNat)
        case atStart => exact ⟨0, by omega, rfl, Below.refl _ _⟩
        case round =>
          obtain ⟨k, hk, rfl, hb⟩ := hrel
          by_cases hlt : k < len
          · obtain ⟨b, off, rfl, hbl, g1, g2, g3⟩ := R13.out.later hb k hlt
            have i1 : (0 : Int) ≤ (k : Int) := by omega
            have i2 : (k : Int) < (len : Int) := by omega
            have hmem := hid (own_mem (g := fun i => (ty i, rl i, wc i)) P0.out hlt)
            go_wp2_with fail
            go_region
            cases hw : wc k with
            | false =>
              rw [hw] at g3
              have HA := hid (Plain.au_own td rn (plainOf l0) (ty k) (rl k) vi false (by have := hmem.out; rw [hw] at this; exact this) HO.out)
              clear hw hmem
              go_wp2_with fail
              refine (allows_any td rn (ty k) vi (rl k) _ (A0'.out.later (hb.trans (((Below.refl _ wr).alloc hb.size _).drew))) (F0.out.later (hb.trans (((Below.refl _ wr).alloc hb.size _).drew))) (by rw [L0.out]; omega)).mono ?_
              rintro e w14 ⟨rfl, b14⟩
              rw [HA.out]
              have hb14 : Below w13.heap.size w13 w14 := (hb.trans (((Below.refl _ wr).alloc hb.size _).drew)).trans (b14.mono (by have := hb.size; simp; omega))
              clear b14 g1 g2 g3
              go_wp2_with fail
              go_roundw
              case rel => exact ⟨k + 1, by omega, by go_num, hb14⟩
              case measure => simp [intOf]; omega
            | true =>
              rw [hw] at g3
              have HA := hid (Plain.au_own td rn (plainOf l0) (ty k) (rl k) ⟨#[42]⟩ true (by have := hmem.out; rw [hw] at this; exact this) star)
              clear hw hmem
              go_wp2_with fail
              refine (allows_any td rn (ty k) ⟨#[42]⟩ (rl k) _ (A0'.out.later (hb.trans (((Below.refl _ wr).alloc hb.size _).drew))) (F0.out.later (hb.trans (((Below.refl _ wr).alloc hb.size _).drew))) (by rw [L0.out]; omega)).mono ?_
              rintro e w14 ⟨rfl, b14⟩
              rw [HA.out]
              have hb14 : Below w13.heap.size w13 w14 := (hb.trans (((Below.refl _ wr).alloc hb.size _).drew)).trans (b14.mono (by have := hb.size; simp; omega))
              clear b14 g1 g2 g3
              go_wp2_with fail
              go_roundw
              case rel => exact ⟨k + 1, by omega, by go_num, hb14⟩
              case measure => simp [intOf]; omega
          · go_wp2_with fail
            go_ret
            exact ⟨rfl, O13.out.below.trans (hb.mono O13.out.le)⟩
      | true =>
        have hvs : vi.size = 1 := star_size hvi
        have hv1 : vi.size ≤ 1 := by omega
        clear hvs
        have hox := star_x hvi
        have HO := hid hox
        clear hox
        go_wp2_with fail
        clear x0 x1 x2 hvi hv1
        generalize vi ++ ({ data := #[120] } : ByteArray) = oid at HO ⊢
        go_loopw [23, 24] (fun i _ wr => ∃ k : Nat, k ≤ len ∧ i = .int .i64 k ∧ Below w13.heap.size w13 wr) (fun i _ _ => len - (intOf i).toNat)
        case atStart => exact ⟨0, by omega, rfl, Below.refl _ _⟩
        case round =>
          obtain ⟨k, hk, rfl, hb⟩ := hrel
          by_cases hlt : k < len
          · obtain ⟨b, off, rfl, hbl, g1, g2, g3⟩ := R13.out.later hb k hlt
            have i1 : (0 : Int) ≤ (k : Int) := by omega
            have i2 : (k : Int) < (len : Int) := by omega
            have hmem := hid (own_mem (g := fun i => (ty i, rl i, wc i)) P0.out hlt)
            go_wp2_with fail
            go_region
            cases hw : wc k with
            | false =>
              rw [hw] at g3
              have HA := hid (Plain.au_own td rn (plainOf l0) (ty k) (rl k) oid false (by have := hmem.out; rw [hw] at this; exact this) HO.out)
              clear hw hmem
              go_wp2_with fail
              refine (allows_any td rn (ty k) oid (rl k) _ (A0'.out.later (hb.trans (((Below.refl _ wr).alloc hb.size _).drew))) (F0.out.later (hb.trans (((Below.refl _ wr).alloc hb.size _).drew))) (by rw [L0.out]; omega)).mono ?_
              rintro e w14 ⟨rfl, b14⟩
              rw [HA.out]
              have hb14 : Below w13.heap.size w13 w14 := (hb.trans (((Below.refl _ wr).alloc hb.size _).drew)).trans (b14.mono (by have := hb.size; simp; omega))
              clear b14 g1 g2 g3
              go_wp2_with fail
              go_roundw
              case rel => exact ⟨k + 1, by omega, by go_num, hb14⟩
              case measure => simp [intOf]; omega
            | true =>
              rw [hw] at g3
              have HA := hid (Plain.au_own td rn (plainOf l0) (ty k) (rl k) ⟨#[42]⟩ true (by have := hmem.out; rw [hw] at this; exact this) star)
              clear hw hmem
              go_wp2_with fail
              refine (allows_any td rn (ty k) ⟨#[42]⟩ (rl k) _ (A0'.out.later (hb.trans (((Below.refl _ wr).alloc hb.size _).drew))) (F0.out.later (hb.trans (((Below.refl _ wr).alloc hb.size _).drew))) (by rw [L0.out]; omega)).mono ?_
              rintro e w14 ⟨rfl, b14⟩
              rw [HA.out]
              have hb14 : Below w13.heap.size w13 w14 := (hb.trans (((Below.refl _ wr).alloc hb.size _).drew)).trans (b14.mono (by have := hb.size; simp; omega))
              clear b14 g1 g2 g3
              go_wp2_with fail
              go_roundw
              case rel => exact ⟨k + 1, by omega, by go_num, hb14⟩
              case measure => simp [intOf]; omega
          · go_wp2_with fail
            go_ret
            exact ⟨rfl, O13.out.below.trans (hb.mono O13.out.le)⟩
  · cases hvi : (vi.toList == [42]) with
    | false =>
      have HO := hid hvi
      go_wp2_with fail
      clear x0 x1 x2 hvi
      go_loopw [23, 24] (fun i _ wr => ∃ k : Nat, k ≤ len ∧ i = .int .i64 k ∧ Below w13.heap.size w13 wr) (fun i _ _ => len - (intOf i).toNat)
      case atStart => exact ⟨0, by omega, rfl, Below.refl _ _⟩
      case round =>
        obtain ⟨k, hk, rfl, hb⟩ := hrel
        by_cases hlt : k < len
        · obtain ⟨b, off, rfl, hbl, g1, g2, g3⟩ := R13.out.later hb k hlt
          have i1 : (0 : Int) ≤ (k : Int) := by omega
          have i2 : (k : Int) < (len : Int) := by omega
          have hmem := hid (own_mem (g := fun i => (ty i, rl i, wc i)) P0.out hlt)
          go_wp2_with fail
          go_region
          cases hw : wc k with
          | false =>
            rw [hw] at g3
            have HA := hid (Plain.au_own td rn (plainOf l0) (ty k) (rl k) vi false (by have := hmem.out; rw [hw] at this; exact this) HO.out)
            clear hw hmem
            go_wp2_with fail
            refine (allows_any td rn (ty k) vi (rl k) _ (A0'.out.later (hb.trans (((Below.refl _ wr).alloc hb.size _).drew))) (F0.out.later (hb.trans (((Below.refl _ wr).alloc hb.size _).drew))) (by rw [L0.out]; omega)).mono ?_
            rintro e w14 ⟨rfl, b14⟩
            rw [HA.out]
            have hb14 : Below w13.heap.size w13 w14 := (hb.trans (((Below.refl _ wr).alloc hb.size _).drew)).trans (b14.mono (by have := hb.size; simp; omega))
            clear b14 g1 g2 g3
            go_wp2_with fail
            go_roundw
            case rel => exact ⟨k + 1, by omega, by go_num, hb14⟩
            case measure => simp [intOf]; omega
          | true =>
            rw [hw] at g3
            have HA := hid (Plain.au_own td rn (plainOf l0) (ty k) (rl k) ⟨#[42]⟩ true (by have := hmem.out; rw [hw] at this; exact this) star)
            clear hw hmem
            go_wp2_with fail
            refine (allows_any td rn (ty k) ⟨#[42]⟩ (rl k) _ (A0'.out.later (hb.trans (((Below.refl _ wr).alloc hb.size _).drew))) (F0.out.later (hb.trans (((Below.refl _ wr).alloc hb.size _).drew))) (by rw [L0.out]; omega)).mono ?_
            rintro e w14 ⟨rfl, b14⟩
            rw [HA.out]
            have hb14 : Below w13.heap.size w13 w14 := (hb.trans (((Below.refl _ wr).alloc hb.size _).drew)).trans (b14.mono (by have := hb.size; simp; omega))
            clear b14 g1 g2 g3
            go_wp2_with fail
            go_roundw
            case rel => exact ⟨k + 1, by omega, by go_num, hb14⟩
            case measure => simp [intOf]; omega
        · go_wp2_with fail
          go_ret
          exact ⟨rfl, O13.out.below.trans (hb.mono O13.out.le)⟩
    | true =>
      have hvs : vi.size = 1 := star_size hvi
      have hv1 : vi.size ≤ 1 := by omega
      clear hvs
      have hox := star_x hvi
      have HO := hid hox
      clear hox
      go_wp2_with fail
      clear x0 x1 x2 hvi hv1
      generalize vi ++ ({ data := #[120] } : ByteArray) = oid at HO ⊢
      go_loopw [23, 24] (fun i _ wr => ∃ k : Nat, k ≤ len ∧ i = .int .i64 k ∧ Below w13.heap.size w13 wr) (fun i _ _ => len - (intOf i).toNat)
      case atStart => exact ⟨0, by omega, rfl, Below.refl _ _⟩
      case round =>
        obtain ⟨k, hk, rfl, hb⟩ := hrel
        by_cases hlt : k < len
        · obtain ⟨b, off, rfl, hbl, g1, g2, g3⟩ := R13.out.later hb k hlt
          have i1 : (0 : Int) ≤ (k : Int) := by omega
          have i2 : (k : Int) < (len : Int) := by omega
          have hmem := hid (own_mem (g := fun i => (ty i, rl i, wc i)) P0.out hlt)
          go_wp2_with fail
          go_region
          cases hw : wc k with
          | false =>
            rw [hw] at g3
            have HA := hid (Plain.au_own td rn (plainOf l0) (ty k) (rl k) oid false (by have := hmem.out; rw [hw] at this; exact this) HO.out)
            clear hw hmem
            go_wp2_with fail
            refine (allows_any td rn (ty k) oid (rl k) _ (A0'.out.later (hb.trans (((Below.refl _ wr).alloc hb.size _).drew))) (F0.out.later (hb.trans (((Below.refl _ wr).alloc hb.size _).drew))) (by rw [L0.out]; omega)).mono ?_
            rintro e w14 ⟨rfl, b14⟩
            rw [HA.out]
            have hb14 : Below w13.heap.size w13 w14 := (hb.trans (((Below.refl _ wr).alloc hb.size _).drew)).trans (b14.mono (by have := hb.size; simp; omega))
            clear b14 g1 g2 g3
            go_wp2_with fail
            go_roundw
            case rel => exact ⟨k + 1, by omega, by go_num, hb14⟩
            case measure => simp [intOf]; omega
          | true =>
            rw [hw] at g3
            have HA := hid (Plain.au_own td rn (plainOf l0) (ty k) (rl k) ⟨#[42]⟩ true (by have := hmem.out; rw [hw] at this; exact this) star)
            clear hw hmem
            go_wp2_with fail
            refine (allows_any td rn (ty k) ⟨#[42]⟩ (rl k) _ (A0'.out.later (hb.trans (((Below.refl _ wr).alloc hb.size _).drew))) (F0.out.later (hb.trans (((Below.refl _ wr).alloc hb.size _).drew))) (by rw [L0.out]; omega)).mono ?_
            rintro e w14 ⟨rfl, b14⟩
            rw [HA.out]
            have hb14 : Below w13.heap.size w13 w14 := (hb.trans (((Below.refl _ wr).alloc hb.size _).drew)).trans (b14.mono (by have := hb.size; simp; omega))
            clear b14 g1 g2 g3
            go_wp2_with fail
            go_roundw
            case rel => exact ⟨k + 1, by omega, by go_num, hb14⟩
            case measure => simp [intOf]; omega
        · go_wp2_with fail
          go_ret
          exact ⟨rfl, O13.out.below.trans (hb.mono O13.out.le)⟩

set_option maxHeartbeats 4000000 in
set_option maxRecDepth 100000 in
theorem walk (td rn ot rel vt vi vr : ByteArray) (a : Option Addr) (len cap : Nat) (c : Int) (ty rl : Nat → ByteArray) (wc : Nat → Bool) (w : World) (hr : Refs w a len ty rl wc) (hm : len ≤ maxLen) :
    Calls Try.prog 4 #[.string td, .string rn, .slice a len cap, .int .i64 c, .string ot, .string rel, .agg #[.string vt, .string vi, .string vr]] w fun e w' =>
      e = .returned (.bool true) ∧ Below w.heap.size w w' := by
  by_cases hs : len ≤ 4096 ∧ 0 ≤ c ∧ c ≤ (len : Int)
  · obtain ⟨hl, h0, h1⟩ := hs
    obtain ⟨n, rfl⟩ := Int.eq_ofNat_of_zero_le h0
    exact walk_main td rn ot rel vt vi vr a len cap n ty rl wc w hr hl (by omega)
  have HS := hid hs
  have HR := hid hr
  have HM := hid hm
  unfold maxLen at hm
  clear hr hs
  go_enter Try.func4, Try.ntmps4
  go_wp2_with fail
  have hbW : Below w.heap.size w (w.alloc (.cells #[.string vt, .string vi, .string vr] 24)) := (Below.refl _ _).alloc (Nat.le_refl _) _
  have HRW := hid (HR.out.later hbW)
  have HO := hid (On.mk hbW hbW.size)
  have HX : Hid (Box (w.alloc (.cells #[.string vt, .string vi, .string vr] 24)) w.heap.size vt vi vr) := by
    obtain ⟨x0, x1, x2⟩ := one_box w (.string vt) (.string vi) (.string vr) 24
    exact ⟨x0, x1, x2⟩
  clear hbW HR
  generalize w.heap.size = p at HX ⊢
  generalize w.alloc (.cells #[.string vt, .string vi, .string vr] 24) = W at HO HRW HX ⊢
  refine (bytes2_any td rn ot rel vt vi vr a len cap c ty rl wc W HRW.out HM.out).mono ?_
  rintro e w1 ⟨⟨b, rfl⟩, b1⟩
  have O1 := hid (HO.out.next b1)
  have R1 := hid (HRW.out.later b1)
  have X1 := hid (HX.out.later b1)
  clear b1 HRW HX HO
  cases b
  · go_wp2_with fail
    go_ret
    exact ⟨rfl, O1.out.below⟩
  by_cases hl : (4096 : Int) < (len : Int)
  · go_wp2_with fail
    go_ret
    exact ⟨rfl, O1.out.below⟩
  obtain ⟨x0, x1, x2⟩ := X1.out
  go_wp2_with fail
  refine (bytes_any td rn ot rel ⟨#[]⟩ ⟨#[]⟩ ⟨#[]⟩ vt vi vr a len cap ty rl wc w1 R1.out (by omega)).mono ?_
  rintro e w2 ⟨⟨r, rfl⟩, b2⟩
  have O2 := hid (O1.out.next b2)
  clear b2 R1 X1 O1 x0 x1 x2
  by_cases hrl : 1048576 < r
  · go_wp2_with fail
    go_ret
    exact ⟨rfl, O2.out.below⟩
  by_cases hk0 : c < 0
  · go_wp2_with fail
    go_ret
    exact ⟨rfl, O2.out.below⟩
  have hk1 : (len : Int) < c := by have := HS.out; omega
  go_wp2_with fail
  go_ret
  exact ⟨rfl, O2.out.below⟩

/-! ### THE ROW's STEP -/
set_option maxRecDepth 100000 in
theorem lifted (os : Os) (started : os.Started) (H : Type) (enc : TypeId × Value → H) :
    ReturnsInHanded {} Try.checked os 4 .any (Rows.fnAllowsUserJoinIsOrAndEachKindAdmittedSpec.pre6 enc Try.prog Try.f4 Rows.fnAllowsUserJoinIsOrAndEachKindAdmittedRow.domain false) (Rows.fnAllowsUserJoinIsOrAndEachKindAdmittedSpec.post enc Try.prog Try.f4 false true false false) := by
  refine returnsInHanded_of_change (C := Try.checked) own started (by kernel_rfl) Try.func4
    (ChangeSpec.witness6 (enc := enc) (C := Try.checked) false ⟨#[], #[.string ByteArray.empty, .string ByteArray.empty, .slice none 0 0, .int .i64 0, .string ByteArray.empty, .string ByteArray.empty, .agg #[.string ByteArray.empty, .string ByteArray.empty, .string ByteArray.empty]], []⟩ 8 (by kernel_rfl) (by kernel_rfl) (by kernel_rfl) (by kernel_rfl)) ?_
  intro W base args ds gs before hval0 hW hcnd _
  have hval : ∀ (j : Nat) t v, Try.f4.params[j]? = some t → args[j]? = some v → Value.okWide Try.prog W .any base t v := hval0
  have hW' := hW
  obtain ⟨p, q, hA0, hV, rfl, hfz, hnd⟩ := hW
  have hA : DataW.TrodAll enc Try.prog W 0 (fun _ => true) true Try.f4.params.toList args.toList ds p := hA0
  rw [Try.params4] at hA hval
  obtain ⟨v0, vs0, d0, ds0, p0, q0, hargs, rfl, rfl, h0, r0⟩ := trodAll_cons hA
  obtain ⟨v1, vs1, d1, ds1, p1, q1, rfl, rfl, rfl, h1, r1⟩ := trodAll_cons r0
  obtain ⟨v2, vs2, d2, ds2, p2, q2, rfl, rfl, rfl, h2, r2⟩ := trodAll_cons r1
  obtain ⟨v3, vs3, d3, ds3, p3, q3, rfl, rfl, rfl, h3, r3⟩ := trodAll_cons r2
  obtain ⟨v4, vs4, d4, ds4, p4, q4, rfl, rfl, rfl, h4, r4⟩ := trodAll_cons r3
  obtain ⟨v5, vs5, d5, ds5, p5, q5, rfl, rfl, rfl, h5, r5⟩ := trodAll_cons r4
  obtain ⟨v6, vs6, d6, ds6, p6, q6, rfl, rfl, rfl, h6, r6⟩ := trodAll_cons r5
  obtain ⟨rfl, rfl, rfl⟩ := trodAll_nil r6
  obtain rfl : args = #[v0, v1, v2, v3, v4, v5, v6] := by cases args; simp_all
  obtain ⟨rfl, rfl⟩ := trodVars_none hV
  obtain ⟨td, rfl, rfl, rfl, w0⟩ := open_string Try.underlying9 (hval 0 9 v0 rfl rfl) h0
  obtain ⟨rn, rfl, rfl, rfl, w1⟩ := open_string Try.underlying9 (hval 1 9 v1 rfl rfl) h1
  obtain ⟨a2, len2, cap2, rfl⟩ := okWide_slice Try.underlying22 (hval 2 22 v2 rfl rfl)
  have k2 := h2
  have lt2 : ∀ x ∈ p2, x.block < W.heap.size := by obtain ⟨m, hm⟩ := k2; exact DataW.trod_lt m _ _ _ hm
  obtain ⟨hm2, ty, rl, wc, hr2⟩ := open_refs h2
  obtain ⟨a3, rfl, rfl, rfl, w3⟩ := open_int Try.underlying3 (hval 3 3 v3 rfl rfl) h3
  obtain ⟨ot, rfl, rfl, rfl, w4⟩ := open_string Try.underlying9 (hval 4 9 v4 rfl rfl) h4
  obtain ⟨rel, rfl, rfl, rfl, w5⟩ := open_string Try.underlying9 (hval 5 9 v5 rfl rfl) h5
  obtain ⟨vt, vi, vr, rfl⟩ := open_user (hval 6 24 v6 rfl rfl) h6
  have lt6 : ∀ x ∈ p6, x.block < W.heap.size := by obtain ⟨m, hm⟩ := h6; exact DataW.trod_lt m _ _ _ hm
  clear hA0 hval0
  refine (walk td rn ot rel vt vi vr a2 len2 cap2 a3 ty rl wc W hr2 hm2).mono fun e W' ⟨he, bel⟩ => ?_
  subst he
  exact ⟨_, rfl, _, _, _, [], _, [], hW', trodAll_mk1 (shut_bool Try.underlying4 _),
    (trodAll_cons_mk (shut_string Try.underlying9 w0) (trodAll_cons_mk (shut_string Try.underlying9 w1)
      (trodAll_cons_mk (Below.trod laidOut (by kernel_rfl) (of_decide_eq_true (by kernel_rfl)) k2 bel lt2) (trodAll_cons_mk (shut_int Try.underlying3 w3)
        (trodAll_cons_mk (shut_string Try.underlying9 w4) (trodAll_cons_mk (shut_string Try.underlying9 w5)
          (trodAll_cons_mk (Below.trod laidOut (by kernel_rfl) (of_decide_eq_true (by kernel_rfl)) h6 bel lt6) trodAll_mk0))))))), rfl, bel.frame _, fun h => by cases h⟩

theorem over : Rows.fnAllowsUserJoinIsOrAndEachKindAdmittedRow.holds Try.pinned (OpenSpec.ofChange Rows.fnAllowsUserJoinIsOrAndEachKindAdmittedSpec) :=
  OpenClaim.holds_of_wide 4 Try.f4 rfl rfl rfl rfl rfl rfl rfl ⟨rfl, rfl, rfl, rfl, rfl⟩ rfl rfl rfl rfl rfl (by kernel_rfl) Try.func4 (by kernel_rfl)
    (of_decide_eq_true (by kernel_rfl)) (by unfold Func.isWrapper; first | (rw [if_pos (by decide +kernel)]; kernel_rfl) | (rw [if_neg (by decide +kernel)]; exact ⟨rfl, rfl⟩))
    (fun os started H enc _ => lifted os started H enc)

/-- THE STATEMENT -/
theorem proved : Rows.FnAllowsUserJoinIsOrAndEachKindAdmittedSaid := over
#print axioms proved
end Go.Proofs.Qxb6627563a.fnAllowsUserJoinIsOrAndEachKindAdmitted
