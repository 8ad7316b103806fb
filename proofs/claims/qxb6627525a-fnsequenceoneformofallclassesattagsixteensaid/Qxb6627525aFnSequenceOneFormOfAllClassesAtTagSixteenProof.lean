import Derived.Test.Qxb6627525aRows
import Derived.Test.Qxb6627525aCalls
import Derived.WalkKit
import Derived.ProofKit
import Derived.OpenShut
import Derived.ShutString
import Derived.ChangeOld
import Derived.Below
namespace Go.Proofs.Qxb6627525a.fnSequenceOneFormOfAllClassesAtTagSixteen
open Go.ChangeShapes Go.WideShapes Go.ChangeAt Go.RowKit
open Go.ChangeMaps (open_string shut_string)
set_option linter.unusedVariables false

theorem own : ownKnob Try.prog.godebug = none := by kernel_rfl
theorem laidOut : laidOutB Try.prog = true := by kernel_rfl

/-- WHAT THE WALK IS TOLD OF A SLICE OF INTEGERS THAT CAME IN: it is nil; or it leads to a row of 'cap' cells, the numbers 'zs' (the first 'len' are its elements, the rest its spare room), each fitting its kind. -/
def IsRow (k : IntKind) (w : World) (a : Option Addr) (len cap : Nat) (zs : List Int) : Prop :=
  (a = none ∧ len = 0 ∧ cap = 0 ∧ zs = []) ∨
  ∃ x, a = some x ∧ len ≤ cap ∧ cap ≤ maxLen ∧ zs.length = cap ∧ (∀ i, i < zs.length → w.cell? (x.add i) = some (.int k (zs.getD i 0))) ∧ ∀ n ∈ zs, (Lit.int k n).wf = true

/-! ### STEP 1: THE WALK: the Go text returns true, AND WRITES NOTHING THAT WAS THERE: 'Below w.heap.size w w'' (Derived/Below.lean: '.refl', '.alloc', '.drew', '.setCell' at a new block, '.trans'). Open each 'IsRow' by 'rcases' AHEAD of 'go_enter'; part every test ahead of the walk. -/
set_option maxHeartbeats 4000000 in
theorem walk_other (tag : Int) (a1 a2 : Option Addr) (l1 c1 l2 c2 : Nat) (f1 f2 : Nat → Int) (what : ByteArray) (w : World) (h1 : l1 ≤ 262144) (h2 : l2 ≤ 262144) (h3 : what.size ≤ 4096)
    (s1 : Src w a1 l1 f1) (s2 : Src w a2 l2 f2) (ht : tag ≠ 16) :
    Calls Try.prog 3 #[.int .u32 tag, .slice a1 l1 c1, .slice a2 l2 c2, .string what] w fun e w' => e = .returned (.bool true) ∧ Below w.heap.size w w' := by
  have ht' : (tag == 16) = false := by simp [ht]
  have HT : Hid (tag ≠ 16) := ht
  clear ht
  go_enter Try.func3, Try.ntmps3
  go_wp2_with fail
  refine (bytes_yes _ _ _ _ _ _ _ _ _ h1 h2 h3).mono ?_
  rintro e w' ⟨rfl, rfl⟩
  go_wp2_with fail
  refine (clone_any a1 l1 c1 f1 w' (by omega) s1).mono ?_
  rintro e w1 ⟨r1, rfl, n1, b1, k1⟩
  go_wp2_with fail
  refine (clone_any a2 l2 c2 f2 w1 (by omega) (s2.later b1)).mono ?_
  rintro e w2 ⟨r2, rfl, n2, b2, k2⟩
  go_wp2_with fail
  refine (clone_any r2 l2 l2 f2 w2 (by omega) k2.src).mono ?_
  rintro e w3 ⟨r3, rfl, n3, b3, k3⟩
  have hb3 : Hid (Below w'.heap.size w' w3) := (b1.trans (b2.mono b1.size)).trans (b3.mono (Nat.le_trans b1.size b2.size))
  clear n1 n2 n3 k1 k2 k3 b1 b2 b3 s1 s2
  go_wp2_with fail
  go_loopw [11, 12, 13, 14, 15, 16, 17, 18, 19, 20] (fun sa sr sc sk si _ _ _ _ _ wr => ∃ k : Nat, k ≤ 256 ∧ sa = .int .i64 0 ∧ sr = .int .i64 (2 * k) ∧ sc = .int .i64 (-1) ∧ sk = .bool false ∧ si = .int .i64 k ∧ Below w3.heap.size w3 wr) (fun _ _ _ _ si _ _ _ _ _ _ => 256 - (intOf si).toNat)
  case atStart => exact ⟨0, by omega, rfl, rfl, rfl, rfl, rfl, Below.refl _ _⟩
  case round =>
    obtain ⟨k, hk, rfl, rfl, rfl, rfl, rfl, hb⟩ := hrel
    by_cases hlt : k < 256
    · have hki : (k : Int) < 256 := by omega
      have hk0 : (0 : Int) ≤ (k : Int) := by omega
      go_wp2_with fail
      refine wp_loop_rounds 3 ?_
      rw [rounds_succ]
      go_wp2_with fail
      refine (sequence_no _ tag false _ _ _ _ _ _ _ _ h3 (fun h => HT.out h.2.2)).mono ?_
      rintro e w4 ⟨L4, rfl, q4⟩
      have hb4 : Below w3.heap.size w3 w4 := (hb.alloc hb.size _).trans (q4.mono (by simp; have := hb.size; omega))
      clear q4
      go_wp2_with fail
      rw [rounds_succ]
      go_wp2_with fail
      refine (sequence_no _ tag true _ _ _ _ _ _ _ _ h3 (fun h => HT.out h.2.2)).mono ?_
      rintro e w5 ⟨L5, rfl, q5⟩
      have hb5 : Below w3.heap.size w3 w5 := (hb4.alloc hb4.size _).trans (q5.mono (by simp; have := hb4.size; omega))
      clear q5
      go_wp2_with fail
      rw [rounds_succ]
      go_wp2_with fail
      go_roundw
      case rel => exact ⟨k + 1, by omega, rfl, by go_num, rfl, rfl, by go_num, hb5⟩
      case measure => simp [intOf]; omega
    · have e : k = 256 := by omega
      subst e
      go_wp2_with fail
      go_ret
      exact ⟨rfl, hb3.out.trans (hb.mono hb3.out.size)⟩

set_option maxHeartbeats 4000000 in
theorem walk_sixteen (a1 a2 : Option Addr) (l1 c1 l2 c2 : Nat) (f1 f2 : Nat → Int) (what : ByteArray) (w : World) (h1 : l1 ≤ 262144) (h2 : l2 ≤ 262144) (h3 : what.size ≤ 4096)
    (s1 : Src w a1 l1 f1) (s2 : Src w a2 l2 f2) :
    Calls Try.prog 3 #[.int .u32 16, .slice a1 l1 c1, .slice a2 l2 c2, .string what] w fun e w' => e = .returned (.bool true) ∧ Below w.heap.size w w' := by
  go_enter Try.func3, Try.ntmps3
  go_wp2_with fail
  refine (bytes_yes _ _ _ _ _ _ _ _ _ h1 h2 h3).mono ?_
  rintro e w' ⟨rfl, rfl⟩
  go_wp2_with fail
  refine (clone_any a1 l1 c1 f1 w' (by omega) s1).mono ?_
  rintro e w1 ⟨r1, rfl, n1, b1, k1⟩
  go_wp2_with fail
  refine (clone_any a2 l2 c2 f2 w1 (by omega) (s2.later b1)).mono ?_
  rintro e w2 ⟨r2, rfl, n2, b2, k2⟩
  go_wp2_with fail
  refine (clone_any r2 l2 l2 f2 w2 (by omega) k2.src).mono ?_
  rintro e w3 ⟨r3, rfl, n3, b3, k3⟩
  have hb3 : Hid (Below w'.heap.size w' w3) := (b1.trans (b2.mono b1.size)).trans (b3.mono (Nat.le_trans b1.size b2.size))
  have K2 : Hid (Cl w3 r2 l2 f2) := k2.later b3
  have K3 : Hid (Cl w3 r3 l2 f2) := k3
  have N3 : Hid (r3 = none ↔ r2 = none) := n3
  clear n1 n2 n3 k1 k2 k3 b1 b2 b3 s1 s2
  go_wp2_with fail
  go_loopw [11, 12, 13, 14, 15, 16, 17, 18, 19, 20] (fun sa sr sc sk si _ _ _ _ _ wr => ∃ k : Nat, k ≤ 256 ∧ si = .int .i64 k ∧ Below w3.heap.size w3 wr ∧
      ((k = 0 ∧ sa = .int .i64 0 ∧ sr = .int .i64 0 ∧ sc = .int .i64 (-1) ∧ sk = .bool false) ∨ (1 ≤ k ∧ sa = .int .i64 1 ∧ sr = .int .i64 (2 * k - 1) ∧ sc = .int .i64 0 ∧ sk = .bool true))) (fun _ _ _ _ si _ _ _ _ _ _ => 256 - (intOf si).toNat)
  case atStart => exact ⟨0, by omega, rfl, Below.refl _ _, .inl ⟨rfl, rfl, rfl, rfl, rfl⟩⟩
  case round =>
    obtain ⟨k, hk, rfl, hb, hcase⟩ := hrel
    rcases hcase with ⟨rfl, rfl, rfl, rfl, rfl⟩ | ⟨h1k, rfl, rfl, rfl, rfl⟩
    · go_wp2_with fail
      refine wp_loop_rounds 3 ?_
      rw [rounds_succ]
      go_wp2_with fail
      refine (sequence_no _ 16 false _ _ _ _ _ _ _ _ h3 (by simp)).mono ?_
      rintro e w4 ⟨L4, rfl, q4⟩
      have hb4 : Below w3.heap.size w3 w4 := (hb.alloc hb.size _).trans (q4.mono (by simp; have := hb.size; omega))
      clear q4
      go_wp2_with fail
      rw [rounds_succ]
      go_wp2_with fail
      refine (sequence_yes _ _ _ _ _ _ _ _).mono ?_
      rintro e w5 ⟨L, rfl, hL1, hL2, hL3, q5⟩
      have hb5 : Below w3.heap.size w3 w5 := (hb4.alloc hb4.size _).trans (q5.mono (by simp; have := hb4.size; omega))
      clear q5 hL1
      go_wp2_with fail
      refine (over_any L r2 r3 l2 f2 w5 (by omega) hL3 (K2.out.later hb5) (K3.out.later hb5) N3.out).mono ?_
      rintro e w6 ⟨rfl, q6⟩
      have hb6 : Below w3.heap.size w3 w6 := hb5.trans (q6.mono hb5.size)
      clear q6
      go_wp2_with fail
      rw [rounds_succ]
      go_wp2_with fail
      go_roundw
      case rel => exact ⟨1, by omega, by go_num, hb6, .inr ⟨by omega, rfl, by go_num, rfl, rfl⟩⟩
      case measure => simp [intOf]
    by_cases hlt : k < 256
    · have hki : (k : Int) < 256 := by omega
      have hk0 : (1 : Int) ≤ (k : Int) := by omega
      go_wp2_with fail
      refine wp_loop_rounds 3 ?_
      rw [rounds_succ]
      go_wp2_with fail
      refine (sequence_no _ 16 false _ _ _ _ _ _ _ _ h3 (by simp)).mono ?_
      rintro e w4 ⟨L4, rfl, q4⟩
      have hb4 : Below w3.heap.size w3 w4 := (hb.alloc hb.size _).trans (q4.mono (by simp; have := hb.size; omega))
      clear q4
      go_wp2_with fail
      rw [rounds_succ]
      go_wp2_with fail
      refine (sequence_no _ 16 true _ _ _ _ _ _ _ _ h3 (by omega)).mono ?_
      rintro e w5 ⟨L5, rfl, q5⟩
      have hb5 : Below w3.heap.size w3 w5 := (hb4.alloc hb4.size _).trans (q5.mono (by simp; have := hb4.size; omega))
      clear q5
      go_wp2_with fail
      rw [rounds_succ]
      go_wp2_with fail
      go_roundw
      case rel => exact ⟨k + 1, by omega, by go_num, hb5, .inr ⟨by omega, rfl, by go_num, rfl, rfl⟩⟩
      case measure => simp [intOf]; omega
    · have e : k = 256 := by omega
      subst e
      go_wp2_with fail
      go_ret
      exact ⟨rfl, hb3.out.trans (hb.mono hb3.out.size)⟩

theorem row_src {w : World} {a : Option Addr} {len cap : Nat} {z : List Int} (h : IsRow .u8 w a len cap z) : Src w a len (fun i => z.getD i 0) := by
  rcases h with ⟨rfl, rfl, _, _⟩ | ⟨x, rfl, hlc, hm, hz, hc, _⟩
  · exact .inl ⟨rfl, rfl⟩
  · refine .inr ⟨x, rfl, fun i hi => ?_⟩
    have h0 := hc i (by omega)
    obtain ⟨b, off, spot⟩ := x
    have hsp : spot = none := by
      have := hc 0 (by omega)
      simpa [Addr.add] using World.cell?_spot this
    subst hsp
    rw [Addr.add_lit] at h0
    exact ⟨World.block_lt_of_cell? w ⟨b, off + i, none⟩ h0, rfl, h0⟩

theorem row_len {w : World} {a : Option Addr} {len cap : Nat} {z : List Int} (h : IsRow .u8 w a len cap z) : len ≤ maxLen := by
  rcases h with ⟨rfl, rfl, _, _⟩ | ⟨x, rfl, hlc, hm, _⟩
  · exact Nat.zero_le _
  · omega

set_option maxHeartbeats 1000000 in
theorem walk (a0 : Int) (a1 : Option Addr) (len1 cap1 : Nat) (z1 : List Int) (a2 : Option Addr) (len2 cap2 : Nat) (z2 : List Int) (a3 : ByteArray) (w : World) (w0 : (Lit.int .u32 a0).wf = true) (w1 : IsRow .u8 w a1 len1 cap1 z1) (w2 : IsRow .u8 w a2 len2 cap2 z2) (w3 : a3.size ≤ maxLen) :
    Calls Try.prog 3 #[.int .u32 a0, .slice a1 len1 cap1, .slice a2 len2 cap2, .string a3] w fun e w' => e = .returned (.bool true) ∧ Below w.heap.size w w' := by
  by_cases hs : len1 ≤ 262144 ∧ len2 ≤ 262144 ∧ a3.size ≤ 4096
  · by_cases ht : a0 = 16
    · subst ht
      exact walk_sixteen a1 a2 len1 cap1 len2 cap2 _ _ a3 w hs.1 hs.2.1 hs.2.2 (row_src w1) (row_src w2)
    · exact walk_other a0 a1 a2 len1 cap1 len2 cap2 _ _ a3 w hs.1 hs.2.1 hs.2.2 (row_src w1) (row_src w2) ht
  · have m1 := row_len w1
    have m2 := row_len w2
    clear w0 w1 w2
    have HS : Hid (¬ (len1 ≤ 262144 ∧ len2 ≤ 262144 ∧ a3.size ≤ 4096)) := hs
    clear hs
    go_enter Try.func3, Try.ntmps3
    go_wp2_with fail
    refine (bytes_any _ _ _ _ _ _ _ _ _ m1 m2 w3).mono ?_
    rintro e w' ⟨⟨b, rfl⟩, rfl⟩
    cases b
    · go_wp2_with fail
      go_ret
      exact ⟨rfl, Below.refl _ _⟩
    by_cases g1 : (262144 : Int) < (len1 : Int)
    · go_wp2_with fail
      go_ret
      exact ⟨rfl, Below.refl _ _⟩
    by_cases g2 : (262144 : Int) < (len2 : Int)
    · go_wp2_with fail
      go_ret
      exact ⟨rfl, Below.refl _ _⟩
    have g3 : (4096 : Int) < (a3.size : Int) := by have := HS.out; omega
    go_wp2_with fail
    go_ret
    exact ⟨rfl, Below.refl _ _⟩

/-! ### THE ROW's STEP: WRITTEN OUT: LEAVE IT -/
set_option maxRecDepth 100000 in
theorem lifted (os : Os) (started : os.Started) (H : Type) (enc : TypeId × Value → H) :
    ReturnsInHanded {} Try.checked os 3 .any (Rows.fnSequenceOneFormOfAllClassesAtTagSixteenSpec.pre6 enc Try.prog Try.f3 Rows.fnSequenceOneFormOfAllClassesAtTagSixteenRow.domain false) (Rows.fnSequenceOneFormOfAllClassesAtTagSixteenSpec.post enc Try.prog Try.f3 false true false false) := by
  refine returnsInHanded_of_change (C := Try.checked) own started (by kernel_rfl) Try.func3
    (ChangeSpec.witness6 (enc := enc) (C := Try.checked) false ⟨#[], #[.int .u32 0, .slice none 0 0, .slice none 0 0, .string ByteArray.empty], []⟩ 8 (by kernel_rfl) (by kernel_rfl) (by kernel_rfl) (by kernel_rfl)) ?_
  intro W base args ds gs before hval0 hW hcnd _
  have hval : ∀ (j : Nat) t v, Try.f3.params[j]? = some t → args[j]? = some v → Value.okWide Try.prog W .any base t v := hval0
  have hW' := hW
  obtain ⟨p, q, hA0, hV, rfl, hfz, hnd⟩ := hW
  have hA : DataW.TrodAll enc Try.prog W 0 (fun _ => true) true Try.f3.params.toList args.toList ds p := hA0
  rw [Try.params3] at hA hval
  obtain ⟨v0, vs0, d0, ds0, p0, q0, hargs, rfl, rfl, h0, r0⟩ := trodAll_cons hA
  obtain ⟨v1, vs1, d1, ds1, p1, q1, rfl, rfl, rfl, h1, r1⟩ := trodAll_cons r0
  obtain ⟨v2, vs2, d2, ds2, p2, q2, rfl, rfl, rfl, h2, r2⟩ := trodAll_cons r1
  obtain ⟨v3, vs3, d3, ds3, p3, q3, rfl, rfl, rfl, h3, r3⟩ := trodAll_cons r2
  obtain ⟨rfl, rfl, rfl⟩ := trodAll_nil r3
  obtain rfl : args = #[v0, v1, v2, v3] := by cases args; simp_all
  obtain ⟨rfl, rfl⟩ := trodVars_none hV
  obtain ⟨a0, rfl, rfl, rfl, w0⟩ := open_int Try.underlying22 (hval 0 22 v0 rfl rfl) h0
  obtain ⟨a1, len1, cap1, rfl⟩ := okWide_slice Try.underlying23 (hval 1 23 v1 rfl rfl)
  have k1 := h1
  have lt1 : ∀ x ∈ p1, x.block < W.heap.size := by obtain ⟨m, hm⟩ := k1; exact DataW.trod_lt m _ _ _ hm
  obtain ⟨z1, w1⟩ : ∃ zs, IsRow .u8 W a1 len1 cap1 zs := by
    obtain ⟨fuel, hf⟩ := h1
    rcases open_ints Try.underlying23 Try.underlying5 (by kernel_rfl) hf with ⟨hcs, _⟩ | ⟨x, l, c, zs, hcs, _, hl, hm, hz, _, hcell, hwz⟩
    · simp [Value.cells] at hcs
      obtain ⟨rfl, rfl, rfl⟩ := hcs
      exact ⟨[], .inl ⟨rfl, rfl, rfl, rfl⟩⟩
    · simp [Value.cells] at hcs
      obtain ⟨rfl, rfl, rfl⟩ := hcs
      exact ⟨zs, .inr ⟨_, rfl, hl, hm, by simpa using hz, hcell, hwz⟩⟩
  obtain ⟨a2, len2, cap2, rfl⟩ := okWide_slice Try.underlying23 (hval 2 23 v2 rfl rfl)
  have k2 := h2
  have lt2 : ∀ x ∈ p2, x.block < W.heap.size := by obtain ⟨m, hm⟩ := k2; exact DataW.trod_lt m _ _ _ hm
  obtain ⟨z2, w2⟩ : ∃ zs, IsRow .u8 W a2 len2 cap2 zs := by
    obtain ⟨fuel, hf⟩ := h2
    rcases open_ints Try.underlying23 Try.underlying5 (by kernel_rfl) hf with ⟨hcs, _⟩ | ⟨x, l, c, zs, hcs, _, hl, hm, hz, _, hcell, hwz⟩
    · simp [Value.cells] at hcs
      obtain ⟨rfl, rfl, rfl⟩ := hcs
      exact ⟨[], .inl ⟨rfl, rfl, rfl, rfl⟩⟩
    · simp [Value.cells] at hcs
      obtain ⟨rfl, rfl, rfl⟩ := hcs
      exact ⟨zs, .inr ⟨_, rfl, hl, hm, by simpa using hz, hcell, hwz⟩⟩
  obtain ⟨a3, rfl, rfl, rfl, w3⟩ := open_string Try.underlying9 (hval 3 9 v3 rfl rfl) h3
  clear hA0 hval0
  refine (walk a0 a1 len1 cap1 z1 a2 len2 cap2 z2 a3 W w0 w1 w2 w3).mono fun e W' ⟨he, bel⟩ => ?_
  subst he
  exact ⟨_, rfl, _, _, _, [], _, [], hW', trodAll_mk1 (shut_bool Try.underlying4 _), (trodAll_cons_mk (shut_int Try.underlying22 w0) (trodAll_cons_mk (Below.trod laidOut (by kernel_rfl) (of_decide_eq_true (by kernel_rfl)) k1 bel lt1) (trodAll_cons_mk (Below.trod laidOut (by kernel_rfl) (of_decide_eq_true (by kernel_rfl)) k2 bel lt2) (trodAll_cons_mk (shut_string Try.underlying9 w3) trodAll_mk0)))), rfl, bel.frame _, fun h => by cases h⟩

theorem over : Rows.fnSequenceOneFormOfAllClassesAtTagSixteenRow.holds Try.pinned (OpenSpec.ofChange Rows.fnSequenceOneFormOfAllClassesAtTagSixteenSpec) :=
  OpenClaim.holds_of_wide 3 Try.f3 rfl rfl rfl rfl rfl rfl rfl ⟨rfl, rfl, rfl, rfl, rfl⟩ rfl rfl rfl rfl rfl (by kernel_rfl) Try.func3 (by kernel_rfl)
    (of_decide_eq_true (by kernel_rfl)) (by unfold Func.isWrapper; first | (rw [if_pos (by decide +kernel)]; kernel_rfl) | (rw [if_neg (by decide +kernel)]; exact ⟨rfl, rfl⟩))
    (fun os started H enc _ => lifted os started H enc)

/-- ████ THE STATEMENT ████ -/
theorem proved : Rows.FnSequenceOneFormOfAllClassesAtTagSixteenSaid := over
#print axioms proved
end Go.Proofs.Qxb6627525a.fnSequenceOneFormOfAllClassesAtTagSixteen
