import Derived.Test.Qxb6627522aRows
import Derived.Test.Qxb6627522aCalls
import Derived.WalkSpells
import Derived.Laws.CopyOwn
import Derived.WalkKit
import Derived.ProofKit
import Derived.OpenShut
import Derived.ShutString
import Derived.ChangeOld
import Derived.Below
namespace Go.Proofs.Qxb6627522a.fnPieceLenIsGreatestCharBoundaryWithinLimit
open Go.ChangeShapes Go.WideShapes Go.ChangeAt Go.RowKit
open Go.ChangeMaps (open_string shut_string)
set_option linter.unusedVariables false

theorem own : ownKnob Try.prog.godebug = none := by kernel_rfl
theorem laidOut : laidOutB Try.prog = true := by kernel_rfl

/-- WHAT THE WALK IS TOLD OF A SLICE OF INTEGERS THAT CAME IN: it is nil; or it leads to a row of 'cap' cells, the numbers 'zs' (the first 'len' are its elements, the rest its spare room), each fitting its kind. -/
def IsRow (k : IntKind) (w : World) (a : Option Addr) (len cap : Nat) (zs : List Int) : Prop :=
  (a = none ∧ len = 0 ∧ cap = 0 ∧ zs = []) ∨
  ∃ x, a = some x ∧ len ≤ cap ∧ cap ≤ maxLen ∧ zs.length = cap ∧ (∀ i, i < zs.length → w.cell? (x.add i) = some (.int k (zs.getD i 0))) ∧ ∀ n ∈ zs, (Lit.int k n).wf = true

/-! ### STEP 1: THE WALK: the Go text returns true, AND WRITES NOTHING THAT WAS THERE: 'Below w.heap.size w w'' (Derived/Below.lean: '.refl', '.alloc', '.drew', '.setCell' at a new block, '.trans'). Open each 'IsRow' by 'rcases' AHEAD of 'go_enter'; part every test ahead of the walk. -/
theorem info5 : (Try.prog.info? 5).map (fun i => (i.zero, i.size, i.bytes)) = some (some (.int .u8 0), 1, 1) := by kernel_rfl

/-- it fits at a 'copy' alone: a guard for the walk -/
theorem at_copy {P : Program} {ops : Array Oper} {Q : Exit → Act → World → Prop} {rest : List Oper} {a : Act} {w : World} {dst : Option Nat} {d s : Operand} {dT sT t : TypeId} {pos : String} {after : Array Edge}
    (h : wpList P ops Q ({ dst := dst, op := .call { callee := .builtin .copy, args := #[d, s], argTypes := #[dT, sT] }, type := t, pos := pos, after := after, guard := none } :: rest) a w) :
    wpList P ops Q ({ dst := dst, op := .call { callee := .builtin .copy, args := #[d, s], argTypes := #[dT, sT] }, type := t, pos := pos, after := after, guard := none } :: rest) a w := h
theorem size5 : (Try.prog.info? 5).map (·.size) = some 1 := by kernel_rfl
/-- the row that 'make' laid -/
theorem made_row {w w1 : World} {g len : Nat} {xs : List Value} (h : w1.ownsRow w.heap.size 5 1 (.slice (some ⟨g, 0, none⟩) len len) len xs) :
    ∃ cur : List Value, cur.length = len ∧ w1.heap[g]? = some (.cells cur.toArray 5 (0, 0)) := by
  obtain ⟨_, h | ⟨g', cap, cur, hv, _, hh, _, _, hs, _⟩⟩ := h
  · simp at h
  · simp only [Value.slice.injEq, Option.some.injEq, Addr.mk.injEq] at hv
    obtain ⟨⟨rfl, _, _⟩, _, rfl⟩ := hv
    exact ⟨cur.toList, by simpa using hs, by simpa using hh⟩
/-- what lies in the row that was made, once the bytes are copied into it -/
theorem bytes_row {w : World} {g len : Nat} {f : Nat → Int} {cur : List Value} (hcur : cur.length = len)
    (h : w.heap[g]? = some (.cells (splice cur 0 ((List.range len).map fun i => Value.int .u8 (f i))).toArray 5 (0, 0))) : Bytes w g 0 len f := by
  intro i hi
  have e : splice cur 0 ((List.range len).map fun i => Value.int .u8 (f i)) = (List.range len).map fun i => Value.int .u8 (f i) := by
    simp [splice, List.drop_eq_nil_of_le (Nat.le_of_eq hcur)]
  rw [e] at h
  simp [World.cell?, h, hi]

set_option maxHeartbeats 2000000 in
theorem walk_main (b off len cap limit : Nat) (f : Nat → Int) (w : World) (hlc : len ≤ cap) (hbw : b < w.heap.size) (hb : Bytes w b off len f) (hf : ∀ i, 0 ≤ f i ∧ f i ≤ 255)
    (hl : len ≤ 1048576) (hp : 0 < len) (h4 : 4 ≤ limit) :
    Calls Try.prog 3 #[.slice (some ⟨b, off, none⟩) len cap, .int .i64 limit] w fun e w' => e = .returned (.bool true) ∧ Below w.heap.size w w' := by
  have HF : Hid (∀ i, 0 ≤ f i ∧ f i ≤ 255) := hf
  clear hf
  have hnn := fun wx => run_neq_slice_nil_any (P := Try.prog) wx 22 5 (some ⟨b, off, none⟩) len cap 0 0 Try.underlying22
  obtain ⟨i0, hi, hz0, hz1, hz2⟩ := info_parts info5
  go_enter Try.func3, Try.ntmps3
  go_wp2_with fail
  refine (bytes3_yes _ _ _ _ _ hl).mono ?_
  rintro e w' ⟨rfl, rfl⟩
  have hcells : ∀ w1 : World, Below w'.heap.size w' w1 → ∀ j v, ((List.range len).map fun i => Value.int .u8 (f i))[j]? = some v → w1.cell? ((⟨b, off, none⟩ : Addr).add j) = some v := by
    intro w1 hb1 j v hj
    rw [Addr.add_lit, hb1.cell (by exact hbw)]
    by_cases hjl : j < len
    · rw [List.getElem?_map, List.getElem?_range hjl] at hj
      simp at hj; subst hj
      exact hb j hjl
    · rw [List.getElem?_eq_none (by simp; omega)] at hj; cases hj
  have Hc := hcells
  have HC : Hid (∀ w1 : World, Below w'.heap.size w' w1 → ∀ j v, ((List.range len).map fun i => Value.int .u8 (f i))[j]? = some v → w1.cell? ((⟨b, off, none⟩ : Addr).add j) = some v) := Hc
  clear Hc hcells hb
  obtain ⟨cs, hcs⟩ : ∃ cs, cs = (List.range len).map fun i => Value.int .u8 (f i) := ⟨_, rfl⟩
  have HCS : Hid (cs = (List.range len).map fun i => Value.int .u8 (f i)) := hcs
  have hcl : cs.length = len := by rw [hcs]; simp
  have HL : Hid (cs.length = len) := hcl
  have hone : ∀ v ∈ cs, v.oneCell' = true := by
    intro v hv; rw [hcs] at hv; simp only [List.mem_map] at hv
    obtain ⟨_, _, rfl⟩ := hv; rfl
  have H1 : Hid (∀ v ∈ cs, v.oneCell' = true) := hone
  clear hcs hcl hone
  go_wp2_with (first
    | (at_make; refine wpList_make_full _ rfl _ _ 22 rfl w'.heap.size 5 i0 (.int .u8 0) 1 Try.underlying22 hi hz0 hz1 .i64 .i64 _ _ len rfl rfl rfl rfl (by rw [hz2]; omega) (by unfold maxLen; omega) (Nat.le_refl _) ?_; intro w1 hown1 hgrow1; have hbel1 : Below w'.heap.size w' w1 := (Below.refl _ _).grown hgrow1 (Nat.le_refl _) (by intro k hk; cases hk); obtain ⟨cur, hcur, hrow⟩ := made_row hown1; have Hcur : Hid (cur.length = len) := hcur; have Hrow : Hid (w1.heap[w'.heap.size]? = some (.cells cur.toArray 5 (0, 0))) := hrow; clear hcur hrow hown1 hgrow1)
    | (with_reducible refine at_copy ?_; go_must (refine wpList_copy_splice rfl _ _ 22 22 rfl 5 Try.underlying22 size5 _ _ _ _ _ _ rfl rfl w'.heap.size 0 cur 5 Hrow.out cs (by rw [HL.out]; simp) (fun _ => ⟨rfl, _, rfl, by rw [HCS.out]; exact HC.out _ hbel1⟩) (by rw [HL.out, Hcur.out]; omega) H1.out w'.heap.size w' hbel1 (Nat.le_refl _) ?_; intro w2 hrow2 hbel2))
    | fail)
  have hb2 : Bytes w2 w'.heap.size 0 len f := bytes_row Hcur.out (by rw [← HCS.out]; exact hrow2.out)
  generalize hgg : w'.heap.size = g at hb2 ⊢
  clear hgg
  clear Hrow hrow2 H1 HL HCS HC hbel1 hnn hi hz0 hz1 hz2
  by_cases hA : len ≤ limit
  · refine (pieceLen_all _ len len limit _ (by omega)).mono ?_
    rintro e w3 ⟨rfl, rfl⟩
    go_wp2_with fail
    go_ret
    exact ⟨rfl, hbel2⟩
  have hcr := Plain.cutC_range limit f h4
  refine (pieceLen_cut g 0 len len limit f _ h4 (by omega) hl HF.out hb2).mono ?_
  rintro e w3 ⟨rfl, rfl⟩
  obtain ⟨r, hr⟩ : ∃ r, r = Plain.cutC limit f := ⟨_, rfl⟩
  rw [← hr]
  rw [← hr] at hcr
  have HR : Hid (r = Plain.cutC limit f) := hr
  clear hr
  go_wp2_with fail
  refine (valid_any g 0 len len f _ hb2 hl).mono ?_
  rintro e w3 ⟨rfl, rfl⟩
  by_cases hv : Plain.V f len 0 = false
  · rw [hv]
    go_wp2_with fail
    go_ret
    exact ⟨rfl, hbel2⟩
  have hv1 : Plain.V f len 0 = true := by simpa using hv
  rw [hv1]
  have HV : Hid (Plain.V f len 0 = true) := hv1
  clear hv hv1
  go_wp2_with fail
  go_loop [7, 8] (fun o _ => ∃ k : Nat, k ≤ limit ∧ o = .int .i64 k ∧ Hid (Plain.V f len k = true)) (fun o _ => len - (intOf o).toNat)
  case atStart => exact ⟨0, by omega, rfl, HV⟩
  case round =>
    obtain ⟨o, ho, rfl, HO⟩ := hrel
    have hs0 := Plain.V_seq (by omega) HO.out
    have hst := Plain.V_step (by omega) hs0
    have HS : Hid (Plain.V f len (o + Plain.seq f len o) = true) := by rw [← hst]; exact HO.out
    have h0' : ((Plain.seq f len o : Int) == 0) = false := by simp; omega
    have hle := Plain.seq_le4 f len o
    by_cases hbr : limit < o + Plain.seq f len o
    · have HC : Hid (Plain.cutC limit f = o) := Plain.cutC_of h4 hs0 ho hbr
      have hro : ((r : Int) == (o : Int)) = true := by rw [HR.out, HC.out]; simp
      clear hs0 hst
      go_wp2_with fail
      refine (seqLen g 0 len len o f _ hb2 (by omega) hl).mono ?_
      rintro e w3 ⟨rfl, rfl⟩
      generalize hsq : Plain.seq f len o = s at *
      go_wp2_with fail
      go_ret
      exact ⟨rfl, hbel2⟩
    · clear hst
      go_wp2_with fail
      refine (seqLen g 0 len len o f _ hb2 (by omega) hl).mono ?_
      rintro e w3 ⟨rfl, rfl⟩
      generalize hsq : Plain.seq f len o = s at *
      go_wp2_with fail
      go_round
      case rel => exact ⟨o + s, by omega, by go_num, HS⟩
      case measure => simp [intOf]; omega

set_option maxHeartbeats 1000000 in
/-- an empty slice that is not nil -/
theorem walk_empty (x : Addr) (cap limit : Nat) (w : World) (h4 : 4 ≤ limit) :
    Calls Try.prog 3 #[.slice (some x) 0 cap, .int .i64 limit] w fun e w' => e = .returned (.bool true) ∧ Below w.heap.size w w' := by
  have hnn := fun wx => run_neq_slice_nil_any (P := Try.prog) wx 22 5 (some x) 0 cap 0 0 Try.underlying22
  obtain ⟨i0, hi, hz0, hz1, hz2⟩ := info_parts info5
  go_enter Try.func3, Try.ntmps3
  go_wp2_with fail
  refine (bytes3_yes _ _ _ _ _ (by omega)).mono ?_
  rintro e w' ⟨rfl, rfl⟩
  go_wp2_with (first
    | (at_make; refine wpList_make_full _ rfl _ _ 22 rfl w'.heap.size 5 i0 (.int .u8 0) 1 Try.underlying22 hi hz0 hz1 .i64 .i64 _ _ 0 rfl rfl rfl rfl (by rw [hz2]; omega) (by unfold maxLen; omega) (Nat.le_refl _) ?_; intro w1 hown1 hgrow1; have hbel1 : Below w'.heap.size w' w1 := (Below.refl _ _).grown hgrow1 (Nat.le_refl _) (by intro k hk; cases hk); clear hown1 hgrow1)
    | (with_reducible refine at_copy ?_; go_must (refine wpList_copy_nothing rfl _ _ 22 22 rfl 5 Try.underlying22 size5 _ _ _ _ _ _ rfl rfl rfl ?_))
    | fail)
  refine (pieceLen_all _ 0 0 limit _ (by omega)).mono ?_
  rintro e w3 ⟨rfl, rfl⟩
  go_wp2_with fail
  go_ret
  exact ⟨rfl, hbel1⟩

theorem row_range {z : List Int} (h : ∀ n ∈ z, (Lit.int .u8 n).wf = true) (i : Nat) : 0 ≤ z.getD i 0 ∧ z.getD i 0 ≤ 255 := by
  by_cases hi : i < z.length
  · rw [List.getD_eq_getElem?_getD, List.getElem?_eq_getElem hi]; exact bounds_u8 (h _ (List.getElem_mem hi))
  · rw [List.getD_eq_getElem?_getD, List.getElem?_eq_none (by omega)]; simp

set_option maxHeartbeats 1000000 in
theorem walk (a0 : Option Addr) (len0 cap0 : Nat) (z0 : List Int) (a1 : Int) (w : World) (w0 : IsRow .u8 w a0 len0 cap0 z0) (w1 : (Lit.int .i64 a1).wf = true) :
    Calls Try.prog 3 #[.slice a0 len0 cap0, .int .i64 a1] w fun e w' => e = .returned (.bool true) ∧ Below w.heap.size w w' := by
  have W0 : Hid (IsRow .u8 w a0 len0 cap0 z0) := w0
  clear w0 w1
  by_cases hl : ¬ len0 ≤ 1048576
  · go_enter Try.func3, Try.ntmps3
    go_wp2_with fail
    refine (bytes3_no _ _ _ _ _ hl).mono ?_
    rintro e w' ⟨rfl, rfl⟩
    go_wp2
    go_ret
    exact ⟨rfl, Below.refl _ _⟩
  have hl : len0 ≤ 1048576 := by omega
  by_cases h4 : a1 < 4
  · go_enter Try.func3, Try.ntmps3
    go_wp2_with fail
    refine (bytes3_yes _ _ _ _ _ hl).mono ?_
    rintro e w' ⟨rfl, rfl⟩
    go_wp2_with fail
    go_ret
    exact ⟨rfl, Below.refl _ _⟩
  rcases W0.out with ⟨rfl, rfl, rfl, _⟩ | ⟨x, rfl, hlc, hm, hzl, hcell, hwz⟩
  · have hnn := fun wx => run_neq_slice_nil_any (P := Try.prog) wx 22 5 none 0 0 0 0 Try.underlying22
    go_enter Try.func3, Try.ntmps3
    go_wp2_with fail
    refine (bytes3_yes _ _ _ _ _ hl).mono ?_
    rintro e w' ⟨rfl, rfl⟩
    go_wp2_with fail
    refine (pieceLen_all _ 0 0 a1 _ (by omega)).mono ?_
    rintro e w' ⟨rfl, rfl⟩
    go_wp2_with fail
    go_ret
    exact ⟨rfl, Below.refl _ _⟩
  obtain ⟨limit, rfl⟩ := Int.eq_ofNat_of_zero_le (show 0 ≤ a1 by omega)
  by_cases hz : len0 = 0
  · subst hz
    exact walk_empty x cap0 limit w (by omega)
  obtain ⟨b, off, spot⟩ := x
  have hc := hcell 0 (by omega)
  have hspot : spot = none := by simpa [Addr.add] using World.cell?_spot hc
  subst hspot
  have hb : Bytes w b off len0 (fun i => z0.getD i 0) := fun i hi => by
    have := hcell i (by omega)
    rw [Addr.add_lit] at this; exact this
  have hf : ∀ i, 0 ≤ (fun i => z0.getD i 0) i ∧ (fun i => z0.getD i 0) i ≤ 255 := fun i => row_range hwz i
  have hbw : b < w.heap.size := by have := World.block_lt_of_cell? _ _ hc; simpa [Addr.add] using this
  clear hc hcell hwz W0 hzl
  generalize (fun i => z0.getD i 0) = f at hb hf
  exact walk_main b off len0 cap0 limit f w hlc hbw hb hf hl (by omega) (by omega)

/-! ### THE ROW's STEP: WRITTEN OUT: LEAVE IT -/
set_option maxRecDepth 100000 in
theorem lifted (os : Os) (started : os.Started) (H : Type) (enc : TypeId × Value → H) :
    ReturnsInHanded {} Try.checked os 3 .any (Rows.fnPieceLenIsGreatestCharBoundaryWithinLimitSpec.pre6 enc Try.prog Try.f3 Rows.fnPieceLenIsGreatestCharBoundaryWithinLimitRow.domain false) (Rows.fnPieceLenIsGreatestCharBoundaryWithinLimitSpec.post enc Try.prog Try.f3 false true false false) := by
  refine returnsInHanded_of_change (C := Try.checked) own started (by kernel_rfl) Try.func3
    (ChangeSpec.witness6 (enc := enc) (C := Try.checked) false ⟨#[], #[.slice none 0 0, .int .i64 0], []⟩ 8 (by kernel_rfl) (by kernel_rfl) (by kernel_rfl) (by kernel_rfl)) ?_
  intro W base args ds gs before hval0 hW hcnd _
  have hval : ∀ (j : Nat) t v, Try.f3.params[j]? = some t → args[j]? = some v → Value.okWide Try.prog W .any base t v := hval0
  have hW' := hW
  obtain ⟨p, q, hA0, hV, rfl, hfz, hnd⟩ := hW
  have hA : DataW.TrodAll enc Try.prog W 0 (fun _ => true) true Try.f3.params.toList args.toList ds p := hA0
  rw [Try.params3] at hA hval
  obtain ⟨v0, vs0, d0, ds0, p0, q0, hargs, rfl, rfl, h0, r0⟩ := trodAll_cons hA
  obtain ⟨v1, vs1, d1, ds1, p1, q1, rfl, rfl, rfl, h1, r1⟩ := trodAll_cons r0
  obtain ⟨rfl, rfl, rfl⟩ := trodAll_nil r1
  obtain rfl : args = #[v0, v1] := by cases args; simp_all
  obtain ⟨rfl, rfl⟩ := trodVars_none hV
  obtain ⟨a0, len0, cap0, rfl⟩ := okWide_slice Try.underlying22 (hval 0 22 v0 rfl rfl)
  have k0 := h0
  have lt0 : ∀ x ∈ p0, x.block < W.heap.size := by obtain ⟨m, hm⟩ := k0; exact DataW.trod_lt m _ _ _ hm
  obtain ⟨z0, w0⟩ : ∃ zs, IsRow .u8 W a0 len0 cap0 zs := by
    obtain ⟨fuel, hf⟩ := h0
    rcases open_ints Try.underlying22 Try.underlying5 (by kernel_rfl) hf with ⟨hcs, _⟩ | ⟨x, l, c, zs, hcs, _, hl, hm, hz, _, hcell, hwz⟩
    · simp [Value.cells] at hcs
      obtain ⟨rfl, rfl, rfl⟩ := hcs
      exact ⟨[], .inl ⟨rfl, rfl, rfl, rfl⟩⟩
    · simp [Value.cells] at hcs
      obtain ⟨rfl, rfl, rfl⟩ := hcs
      exact ⟨zs, .inr ⟨_, rfl, hl, hm, by simpa using hz, hcell, hwz⟩⟩
  obtain ⟨a1, rfl, rfl, rfl, w1⟩ := open_int Try.underlying3 (hval 1 3 v1 rfl rfl) h1
  clear hA0 hval0
  refine (walk a0 len0 cap0 z0 a1 W w0 w1).mono fun e W' ⟨he, bel⟩ => ?_
  subst he
  exact ⟨_, rfl, _, _, _, [], _, [], hW', trodAll_mk1 (shut_bool Try.underlying4 _), (trodAll_cons_mk (Below.trod laidOut (by kernel_rfl) (of_decide_eq_true (by kernel_rfl)) k0 bel lt0) (trodAll_cons_mk (shut_int Try.underlying3 w1) trodAll_mk0)), rfl, bel.frame _, fun h => by cases h⟩

theorem over : Rows.fnPieceLenIsGreatestCharBoundaryWithinLimitRow.holds Try.pinned (OpenSpec.ofChange Rows.fnPieceLenIsGreatestCharBoundaryWithinLimitSpec) :=
  OpenClaim.holds_of_wide 3 Try.f3 rfl rfl rfl rfl rfl rfl rfl ⟨rfl, rfl, rfl, rfl, rfl⟩ rfl rfl rfl rfl rfl (by kernel_rfl) Try.func3 (by kernel_rfl)
    (of_decide_eq_true (by kernel_rfl)) (by unfold Func.isWrapper; first | (rw [if_pos (by decide +kernel)]; kernel_rfl) | (rw [if_neg (by decide +kernel)]; exact ⟨rfl, rfl⟩))
    (fun os started H enc _ => lifted os started H enc)

/-- ████ THE STATEMENT ████ -/
theorem proved : Rows.FnPieceLenIsGreatestCharBoundaryWithinLimitSaid := over
#print axioms proved
end Go.Proofs.Qxb6627522a.fnPieceLenIsGreatestCharBoundaryWithinLimit
