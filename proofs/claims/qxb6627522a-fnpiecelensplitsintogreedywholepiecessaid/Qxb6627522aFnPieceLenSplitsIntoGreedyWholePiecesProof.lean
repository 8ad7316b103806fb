import Derived.Test.Qxb6627522aRows
import Derived.Test.Qxb6627522aCalls
import Derived.WalkKit
import Derived.ProofKit
import Derived.OpenShut
import Derived.ShutString
import Derived.ChangeOld
import Derived.Below
namespace Go.Proofs.Qxb6627522a.fnPieceLenSplitsIntoGreedyWholePieces
open Go.ChangeShapes Go.WideShapes Go.ChangeAt Go.RowKit
open Go.ChangeMaps (open_string shut_string)
set_option linter.unusedVariables false

theorem own : ownKnob Try.prog.godebug = none := by kernel_rfl
theorem laidOut : laidOutB Try.prog = true := by kernel_rfl

/-- WHAT THE WALK IS TOLD OF A SLICE OF INTEGERS THAT CAME IN: it is nil; or it leads to a row of 'cap' cells, the numbers 'zs' (the first 'len' are its elements, the rest its spare room), each fitting its kind. -/
def IsRow (k : IntKind) (w : World) (a : Option Addr) (len cap : Nat) (zs : List Int) : Prop :=
  (a = none ∧ len = 0 ∧ cap = 0 ∧ zs = []) ∨
  ∃ x, a = some x ∧ len ≤ cap ∧ cap ≤ maxLen ∧ zs.length = cap ∧ (∀ i, i < zs.length → w.cell? (x.add i) = some (.int k (zs.getD i 0))) ∧ ∀ n ∈ zs, (Lit.int k n).wf = true

/-! ### STEP 1: THE WALK: the Go text returns true, AND WRITES NOTHING THAT WAS THERE: 'Below w.heap.size w w'' (Derived/Below.lean: '.refl', '.alloc', '.drew', '.setCell' at a new block, '.trans'). Open each 'IsRow' by 'rcases' AHEAD of 'go_enter'; part every test ahead of the walk. -/
/-- the plain fact of one cut -/
theorem cut_fact (f : Nat → Int) (len o limit : Nat) (h4 : 4 ≤ limit) (ho : limit < len - o) (hv : Plain.V f len o = true) :
    ∃ k s, 1 ≤ k ∧ k ≤ limit ∧ k < len - o ∧ Plain.cutC limit (fun j => f (o + j)) = k ∧ Plain.V (fun j => f (o + j)) k 0 = true ∧
      Plain.seq (fun j => f (o + j)) (len - o) k = s ∧ s ≠ 0 ∧ limit < k + s ∧ s ≤ 4 ∧ Plain.V f len (o + k) = true := by
  obtain ⟨c, a1, a2, a3, a4, a5⟩ := Plain.cut_at f len (o + limit) (by omega) limit o (by omega) (by omega) hv
  obtain ⟨k, rfl⟩ : ∃ k, c = o + k := ⟨c - o, by omega⟩
  have hs := Plain.V_seq (by omega) a3
  have e : Plain.seq (fun j => f (o + j)) (len - o) k = Plain.seq f len (o + k) := by
    rw [Plain.seq_shift, show o + (len - o) = len from by omega]
  have hle := Plain.seq_le4 f len (o + k)
  refine ⟨k, Plain.seq f len (o + k), by omega, by omega, by omega, ?_, ?_, e, hs, by omega, hle, a3⟩
  · exact Plain.cutC_of (n := len - o) h4 (by rw [e]; exact hs) (by omega) (by rw [e]; omega)
  · rw [Plain.V_shift]; exact a5

set_option maxHeartbeats 2000000 in
theorem walk_main (b off len cap limit : Nat) (f : Nat → Int) (w : World) (hlc : len ≤ cap) (hb : Bytes w b off len f) (hf : ∀ i, 0 ≤ f i ∧ f i ≤ 255)
    (hl : len ≤ 1048576) (hp : 0 < len) (h4 : 4 ≤ limit) (hv : Plain.V f len 0 = true) :
    Calls Try.prog 4 #[.slice (some ⟨b, off, none⟩) len cap, .int .i64 limit] w fun e w' => e = .returned (.bool true) ∧ w' = w := by
  have HV : Hid (Plain.V f len 0 = true) := hv
  clear hv
  have HF : Hid (∀ i, 0 ≤ f i ∧ f i ≤ 255) := hf
  clear hf
  go_enter Try.func4, Try.ntmps4
  go_wp2_with fail
  refine (bytes4_yes _ _ _ _ _ hl).mono ?_
  rintro e w' ⟨rfl, rfl⟩
  go_wp2_with fail
  refine (valid_any b off len cap f _ hb hl).mono ?_
  rintro e w' ⟨rfl, rfl⟩
  rw [HV.out]
  go_wp2_with fail
  go_loop [5, 6, 7, 8, 9] (fun o s _ _ _ => ∃ k t : Nat, k ≤ len ∧ t ≤ k ∧ o = .int .i64 k ∧ s = .int .i64 t ∧ Hid (Plain.V f len k = true)) (fun o _ _ _ _ => len - (intOf o).toNat)
  case atStart => exact ⟨0, 0, Nat.zero_le _, Nat.zero_le _, rfl, rfl, HV⟩
  case round =>
    obtain ⟨o, t, hk, ht, rfl, rfl, HO⟩ := hrel
    by_cases hlt : o < len
    · have hb' : Bytes w' b (off + o) (len - o) (fun j => f (o + j)) := by
        intro i hi
        have := hb (o + i) (by omega)
        rwa [show off + (o + i) = off + o + i from by omega] at this
      by_cases hA : len - o ≤ limit
      · have hv' : Plain.V (fun j => f (o + j)) (len - o) 0 = true := by
          rw [Plain.V_shift, show o + (len - o) = len from by omega]; exact HO.out
        have HV' : Hid (Plain.V (fun j => f (o + j)) (len - o) 0 = true) := hv'
        clear hv'
        go_wp2_with fail
        refine (pieceLen_all _ (len - o) (cap - o) limit _ (by omega)).mono ?_
        rintro e w' ⟨rfl, rfl⟩
        go_wp2_with fail
        refine (valid_any b (off + o) (len - o) (cap - o) (fun j => f (o + j)) _ hb' (by omega)).mono ?_
        rintro e w' ⟨rfl, rfl⟩
        rw [HV'.out]
        go_wp2_with fail
        go_round
        case rel => exact ⟨len, t + 1, by omega, by omega, by go_num, by go_num, Plain.V_end (Nat.le_refl _)⟩
        case measure => simp [intOf]; omega
      · obtain ⟨k, s, k1, k2, k3, k4, k5, k6, k7, k8, k9, k10⟩ := cut_fact f len o limit h4 (by omega) HO.out
        have K4 : Hid (Plain.cutC limit (fun j => f (o + j)) = k) := k4
        have K5 : Hid (Plain.V (fun j => f (o + j)) k 0 = true) := k5
        have K6 : Hid (Plain.seq (fun j => f (o + j)) (len - o) k = s) := k6
        have K10 : Hid (Plain.V f len (o + k) = true) := k10
        have k7' : ((s : Int) == 0) = false := by simp; omega
        have hbk : Bytes w' b (off + o) k (fun j => f (o + j)) := fun i hi => hb' i (by omega)
        clear k4 k5 k6 k10 k7
        go_wp2_with fail
        refine (pieceLen_cut b (off + o) (len - o) (cap - o) limit (fun j => f (o + j)) _ h4 (by omega) (by omega) (fun i => HF.out _) hb').mono ?_
        rintro e w' ⟨rfl, rfl⟩
        rw [K4.out]
        go_wp2_with fail
        refine (valid_any b (off + o) k (cap - o) (fun j => f (o + j)) _ hbk (by omega)).mono ?_
        rintro e w' ⟨rfl, rfl⟩
        rw [K5.out]
        go_wp2_with fail
        refine (seqLen b (off + o) (len - o) (cap - o) k (fun j => f (o + j)) _ hb' (by omega) (by omega)).mono ?_
        rintro e w' ⟨rfl, rfl⟩
        rw [K6.out]
        go_wp2_with fail
        go_round
        case rel => exact ⟨o + k, t + 1, by omega, by omega, by go_num, by go_num, K10⟩
        case measure => simp [intOf]; omega
    · have e : o = len := by omega
      have e' : ((o : Int) == (len : Int)) = true := by simp; omega
      clear e
      go_wp2
      go_ret
      exact ⟨rfl, rfl⟩
theorem row_range {z : List Int} (h : ∀ n ∈ z, (Lit.int .u8 n).wf = true) (i : Nat) : 0 ≤ z.getD i 0 ∧ z.getD i 0 ≤ 255 := by
  by_cases hi : i < z.length
  · rw [List.getD_eq_getElem?_getD, List.getElem?_eq_getElem hi]; exact bounds_u8 (h _ (List.getElem_mem hi))
  · rw [List.getD_eq_getElem?_getD, List.getElem?_eq_none (by omega)]; simp

set_option maxHeartbeats 1000000 in
theorem walk (a0 : Option Addr) (len0 cap0 : Nat) (z0 : List Int) (a1 : Int) (w : World) (w0 : IsRow .u8 w a0 len0 cap0 z0) (w1 : (Lit.int .i64 a1).wf = true) :
    Calls Try.prog 4 #[.slice a0 len0 cap0, .int .i64 a1] w fun e w' => e = .returned (.bool true) ∧ Below w.heap.size w w' := by
  have W0 : Hid (IsRow .u8 w a0 len0 cap0 z0) := w0
  clear w0 w1
  by_cases hl : ¬ len0 ≤ 1048576
  · go_enter Try.func4, Try.ntmps4
    go_wp2_with fail
    refine (bytes4_no _ _ _ _ _ hl).mono ?_
    rintro e w' ⟨rfl, rfl⟩
    go_wp2
    go_ret
    exact ⟨rfl, Below.refl _ _⟩
  have hl : len0 ≤ 1048576 := by omega
  by_cases h4 : a1 < 4
  · go_enter Try.func4, Try.ntmps4
    go_wp2_with fail
    refine (bytes4_yes _ _ _ _ _ hl).mono ?_
    rintro e w' ⟨rfl, rfl⟩
    go_wp2_with fail
    go_ret
    exact ⟨rfl, Below.refl _ _⟩
  by_cases hz : len0 = 0
  · subst hz
    go_enter Try.func4, Try.ntmps4
    go_wp2_with fail
    refine (bytes4_yes _ _ _ _ _ hl).mono ?_
    rintro e w' ⟨rfl, rfl⟩
    go_wp2_with fail
    refine (valid_none _ _ _).mono ?_
    rintro e w' ⟨rfl, rfl⟩
    go_wp2
    refine wp_loop_rounds 1 ?_
    rw [rounds_succ]
    go_wp2
    go_ret
    exact ⟨rfl, Below.refl _ _⟩
  rcases W0.out with ⟨_, rfl, _, _⟩ | ⟨x, rfl, hlc, hm, hzl, hcell, hwz⟩
  · exact absurd rfl hz
  obtain ⟨b, off, spot⟩ := x
  have hc := hcell 0 (by omega)
  have hspot : spot = none := by simpa [Addr.add] using World.cell?_spot hc
  subst hspot
  have hb : Bytes w b off len0 (fun i => z0.getD i 0) := fun i hi => by
    have := hcell i (by omega)
    rw [Addr.add_lit] at this; exact this
  have hf : ∀ i, 0 ≤ (fun i => z0.getD i 0) i ∧ (fun i => z0.getD i 0) i ≤ 255 := fun i => row_range hwz i
  clear hc hcell hwz W0 hzl
  generalize (fun i => z0.getD i 0) = f at hb hf
  obtain ⟨limit, rfl⟩ := Int.eq_ofNat_of_zero_le (show 0 ≤ a1 by omega)
  by_cases hv : Plain.V f len0 0 = true
  · exact (walk_main b off len0 cap0 limit f w hlc hb hf hl (by omega) (by omega) hv).mono fun e w' ⟨he, hw⟩ => ⟨he, by rw [hw]; exact Below.refl _ _⟩
  · have hv' : Plain.V f len0 0 = false := by simpa using hv
    have HV : Hid (Plain.V f len0 0 = false) := hv'
    clear hv hv' hf
    go_enter Try.func4, Try.ntmps4
    go_wp2_with fail
    refine (bytes4_yes _ _ _ _ _ hl).mono ?_
    rintro e w' ⟨rfl, rfl⟩
    go_wp2_with fail
    refine (valid_any b off len0 cap0 f _ hb hl).mono ?_
    rintro e w' ⟨rfl, rfl⟩
    rw [HV.out]
    go_wp2_with fail
    go_ret
    exact ⟨rfl, Below.refl _ _⟩

/-! ### THE ROW's STEP: WRITTEN OUT: LEAVE IT -/
set_option maxRecDepth 100000 in
theorem lifted (os : Os) (started : os.Started) (H : Type) (enc : TypeId × Value → H) :
    ReturnsInHanded {} Try.checked os 4 .any (Rows.fnPieceLenSplitsIntoGreedyWholePiecesSpec.pre6 enc Try.prog Try.f4 Rows.fnPieceLenSplitsIntoGreedyWholePiecesRow.domain false) (Rows.fnPieceLenSplitsIntoGreedyWholePiecesSpec.post enc Try.prog Try.f4 false true false false) := by
  refine returnsInHanded_of_change (C := Try.checked) own started (by kernel_rfl) Try.func4
    (ChangeSpec.witness6 (enc := enc) (C := Try.checked) false ⟨#[], #[.slice none 0 0, .int .i64 0], []⟩ 8 (by kernel_rfl) (by kernel_rfl) (by kernel_rfl) (by kernel_rfl)) ?_
  intro W base args ds gs before hval0 hW hcnd _
  have hval : ∀ (j : Nat) t v, Try.f4.params[j]? = some t → args[j]? = some v → Value.okWide Try.prog W .any base t v := hval0
  have hW' := hW
  obtain ⟨p, q, hA0, hV, rfl, hfz, hnd⟩ := hW
  have hA : DataW.TrodAll enc Try.prog W 0 (fun _ => true) true Try.f4.params.toList args.toList ds p := hA0
  rw [Try.params4] at hA hval
  obtain ⟨v0, vs0, d0, ds0, p0, q0, hargs, rfl, rfl, h0, r0⟩ := trodAll_cons hA
  obtain ⟨v1, vs1, d1, ds1, p1, q1, rfl, rfl, rfl, h1, r1⟩ := trodAll_cons r0
  obtain ⟨rfl, rfl, rfl⟩ := trodAll_nil r1
  obtain rfl : args = #[v0, v1] := by cases args; simp_all
  obtain ⟨rfl, rfl⟩ := trodVars_none hV
  obtain ⟨a0, len0, cap0, rfl⟩ := okWide_slice Try.underlying22 (hval 0 22 v0 rfl rfl)
  have k0 := h0
  have lt0 : ∀ x ∈ p0, x.block < W.heap.size := by obtain ⟨m, hm⟩ := k0; exact DataW.trod_lt m _ _ _ hm
  obtain ⟨z0, w0⟩ : ∃ zs, IsRow .u8 W a0 len0 cap0 zs := by
    obtain ⟨fuel, hf⟩ := h0
    rcases open_ints Try.underlying22 Try.underlying5 (by kernel_rfl) hf with ⟨hcs, _⟩ | ⟨x, l, c, zs, hcs, _, hl, hm, hz, _, hcell, hwz⟩
    · simp [Value.cells] at hcs
      obtain ⟨rfl, rfl, rfl⟩ := hcs
      exact ⟨[], .inl ⟨rfl, rfl, rfl, rfl⟩⟩
    · simp [Value.cells] at hcs
      obtain ⟨rfl, rfl, rfl⟩ := hcs
      exact ⟨zs, .inr ⟨_, rfl, hl, hm, by simpa using hz, hcell, hwz⟩⟩
  obtain ⟨a1, rfl, rfl, rfl, w1⟩ := open_int Try.underlying3 (hval 1 3 v1 rfl rfl) h1
  clear hA0 hval0
  refine (walk a0 len0 cap0 z0 a1 W w0 w1).mono fun e W' ⟨he, bel⟩ => ?_
  subst he
  exact ⟨_, rfl, _, _, _, [], _, [], hW', trodAll_mk1 (shut_bool Try.underlying4 _), (trodAll_cons_mk (Below.trod laidOut (by kernel_rfl) (of_decide_eq_true (by kernel_rfl)) k0 bel lt0) (trodAll_cons_mk (shut_int Try.underlying3 w1) trodAll_mk0)), rfl, bel.frame _, fun h => by cases h⟩

theorem over : Rows.fnPieceLenSplitsIntoGreedyWholePiecesRow.holds Try.pinned (OpenSpec.ofChange Rows.fnPieceLenSplitsIntoGreedyWholePiecesSpec) :=
  OpenClaim.holds_of_wide 4 Try.f4 rfl rfl rfl rfl rfl rfl rfl ⟨rfl, rfl, rfl, rfl, rfl⟩ rfl rfl rfl rfl rfl (by kernel_rfl) Try.func4 (by kernel_rfl)
    (of_decide_eq_true (by kernel_rfl)) (by unfold Func.isWrapper; first | (rw [if_pos (by decide +kernel)]; kernel_rfl) | (rw [if_neg (by decide +kernel)]; exact ⟨rfl, rfl⟩))
    (fun os started H enc _ => lifted os started H enc)

/-- ████ THE STATEMENT ████ -/
theorem proved : Rows.FnPieceLenSplitsIntoGreedyWholePiecesSaid := over
#print axioms proved
end Go.Proofs.Qxb6627522a.fnPieceLenSplitsIntoGreedyWholePieces
