import Derived.Test.Qxb6627522aSeq
namespace Go.Proofs.Qxb6627522a
open Go.ChangeShapes Go.WideShapes Go.ChangeAt Go.RowKit
set_option linter.unusedVariables false

theorem runeStart_yes (c : Int) (h0 : 0 ≤ c) (h1 : c ≤ 255) (w : World) (h : Plain.cont c = false) :
    Calls Try.prog 10 #[.int .u8 c] w fun e w' => e = .returned (.bool true) ∧ w' = w :=
  (runeStart c h0 h1 w).mono fun e w' ⟨he, hw⟩ => ⟨by rw [he, h]; rfl, hw⟩
theorem runeStart_no (c : Int) (h0 : 0 ≤ c) (h1 : c ≤ 255) (w : World) (h : Plain.cont c = true) :
    Calls Try.prog 10 #[.int .u8 c] w fun e w' => e = .returned (.bool false) ∧ w' = w :=
  (runeStart c h0 h1 w).mono fun e w' ⟨he, hw⟩ => ⟨by rw [he, h]; rfl, hw⟩

/-- a short text: all of it -/
theorem pieceLen_all (a : Option Addr) (len cap : Nat) (limit : Int) (w : World) (h : (len : Int) ≤ limit) :
    Calls Try.prog 6 #[.slice a len cap, .int .i64 limit] w fun e w' => e = .returned (.int .i64 len) ∧ w' = w := by
  go_enter Try.func6, Try.ntmps6
  go_wp2
  go_ret
  exact ⟨rfl, rfl⟩

set_option maxHeartbeats 1000000 in
/-- a longer text: the cut -/
theorem pieceLen_cut (b off len cap limit : Nat) (f : Nat → Int) (w : World) (h4 : 4 ≤ limit) (hl : limit < len) (hm : len ≤ 1048576)
    (hf : ∀ i, 0 ≤ f i ∧ f i ≤ 255) (hc : ∀ i, i < len → w.cell? ⟨b, off + i, none⟩ = some (.int .u8 (f i))) :
    Calls Try.prog 6 #[.slice (some ⟨b, off, none⟩) len cap, .int .i64 limit] w fun e w' => e = .returned (.int .i64 (Plain.cutC limit f)) ∧ w' = w := by
  obtain ⟨l, rfl⟩ : ∃ l, limit = l + 4 := ⟨limit - 4, by omega⟩
  have g0 := hc (l + 4) (by omega)
  have g1 := hc (l + 3) (by omega)
  have g2 := hc (l + 2) (by omega)
  have g3 := hc (l + 1) (by omega)
  have f0 := hf (l + 4)
  have f1 := hf (l + 3)
  have f2 := hf (l + 2)
  have f3 := hf (l + 1)
  clear hc hf
  have HC : Hid (Plain.cutC (l + 4) f = if Plain.cont (f (l + 4)) = false then l + 4
  else if Plain.cont (f (l + 3)) = false then l + 3
  else if Plain.cont (f (l + 2)) = false then l + 2
  else if Plain.cont (f (l + 1)) = false then l + 1
  else l + 4) := by rfl
  generalize f (l + 4) = c0 at *
  generalize f (l + 3) = c1 at *
  generalize f (l + 2) = c2 at *
  generalize f (l + 1) = c3 at *
  by_cases k0 : Plain.cont c0 = false
  · have K0 : Hid (Plain.cont c0 = false) := k0
    clear k0
    go_enter Try.func6, Try.ntmps6
    go_wp2
    refine wp_loop_rounds 5 ?_
    rw [rounds_succ]
    go_wp2_with fail
    refine (runeStart_yes _ f0.1 f0.2 _ K0.out).mono ?_
    rintro e w' ⟨rfl, rfl⟩
    go_wp2_with fail
    go_ret
    exact ⟨by rw [HC.out, if_pos K0.out]; go_num, rfl⟩
  have j0 : Plain.cont c0 = true := by simpa using k0
  have K0 : Hid (Plain.cont c0 = true) := j0
  clear j0
  clear k0
  by_cases k1 : Plain.cont c1 = false
  · have K1 : Hid (Plain.cont c1 = false) := k1
    clear k1
    go_enter Try.func6, Try.ntmps6
    go_wp2
    refine wp_loop_rounds 5 ?_
    rw [rounds_succ]
    go_wp2_with fail
    refine (runeStart_no _ f0.1 f0.2 _ K0.out).mono ?_
    rintro e w' ⟨rfl, rfl⟩
    go_wp2_with fail
    rw [rounds_succ]
    go_wp2_with fail
    refine (runeStart_yes _ f1.1 f1.2 _ K1.out).mono ?_
    rintro e w' ⟨rfl, rfl⟩
    go_wp2_with fail
    go_ret
    exact ⟨by rw [HC.out, if_neg (by rw [K0.out]; simp), if_pos K1.out]; go_num, rfl⟩
  have j1 : Plain.cont c1 = true := by simpa using k1
  have K1 : Hid (Plain.cont c1 = true) := j1
  clear j1
  clear k1
  by_cases k2 : Plain.cont c2 = false
  · have K2 : Hid (Plain.cont c2 = false) := k2
    clear k2
    go_enter Try.func6, Try.ntmps6
    go_wp2
    refine wp_loop_rounds 5 ?_
    rw [rounds_succ]
    go_wp2_with fail
    refine (runeStart_no _ f0.1 f0.2 _ K0.out).mono ?_
    rintro e w' ⟨rfl, rfl⟩
    go_wp2_with fail
    rw [rounds_succ]
    go_wp2_with fail
    refine (runeStart_no _ f1.1 f1.2 _ K1.out).mono ?_
    rintro e w' ⟨rfl, rfl⟩
    go_wp2_with fail
    rw [rounds_succ]
    go_wp2_with fail
    refine (runeStart_yes _ f2.1 f2.2 _ K2.out).mono ?_
    rintro e w' ⟨rfl, rfl⟩
    go_wp2_with fail
    go_ret
    exact ⟨by rw [HC.out, if_neg (by rw [K0.out]; simp), if_neg (by rw [K1.out]; simp), if_pos K2.out]; go_num, rfl⟩
  have j2 : Plain.cont c2 = true := by simpa using k2
  have K2 : Hid (Plain.cont c2 = true) := j2
  clear j2
  clear k2
  by_cases k3 : Plain.cont c3 = false
  · have K3 : Hid (Plain.cont c3 = false) := k3
    clear k3
    go_enter Try.func6, Try.ntmps6
    go_wp2
    refine wp_loop_rounds 5 ?_
    rw [rounds_succ]
    go_wp2_with fail
    refine (runeStart_no _ f0.1 f0.2 _ K0.out).mono ?_
    rintro e w' ⟨rfl, rfl⟩
    go_wp2_with fail
    rw [rounds_succ]
    go_wp2_with fail
    refine (runeStart_no _ f1.1 f1.2 _ K1.out).mono ?_
    rintro e w' ⟨rfl, rfl⟩
    go_wp2_with fail
    rw [rounds_succ]
    go_wp2_with fail
    refine (runeStart_no _ f2.1 f2.2 _ K2.out).mono ?_
    rintro e w' ⟨rfl, rfl⟩
    go_wp2_with fail
    rw [rounds_succ]
    go_wp2_with fail
    refine (runeStart_yes _ f3.1 f3.2 _ K3.out).mono ?_
    rintro e w' ⟨rfl, rfl⟩
    go_wp2_with fail
    go_ret
    exact ⟨by rw [HC.out, if_neg (by rw [K0.out]; simp), if_neg (by rw [K1.out]; simp), if_neg (by rw [K2.out]; simp), if_pos K3.out]; go_num, rfl⟩
  have j3 : Plain.cont c3 = true := by simpa using k3
  have K3 : Hid (Plain.cont c3 = true) := j3
  clear j3
  clear k3
  go_enter Try.func6, Try.ntmps6
  go_wp2
  refine wp_loop_rounds 5 ?_
  rw [rounds_succ]
  go_wp2_with fail
  refine (runeStart_no _ f0.1 f0.2 _ K0.out).mono ?_
  rintro e w' ⟨rfl, rfl⟩
  go_wp2_with fail
  rw [rounds_succ]
  go_wp2_with fail
  refine (runeStart_no _ f1.1 f1.2 _ K1.out).mono ?_
  rintro e w' ⟨rfl, rfl⟩
  go_wp2_with fail
  rw [rounds_succ]
  go_wp2_with fail
  refine (runeStart_no _ f2.1 f2.2 _ K2.out).mono ?_
  rintro e w' ⟨rfl, rfl⟩
  go_wp2_with fail
  rw [rounds_succ]
  go_wp2_with fail
  refine (runeStart_no _ f3.1 f3.2 _ K3.out).mono ?_
  rintro e w' ⟨rfl, rfl⟩
  go_wp2_with fail
  rw [rounds_succ]
  go_wp2
  go_ret
  exact ⟨by rw [HC.out, if_neg (by rw [K0.out]; simp), if_neg (by rw [K1.out]; simp), if_neg (by rw [K2.out]; simp), if_neg (by rw [K3.out]; simp)]; go_num, rfl⟩

/-- the bytes of a text in memory -/
def Bytes (w : World) (b off len : Nat) (f : Nat → Int) : Prop := ∀ i, i < len → w.cell? ⟨b, off + i, none⟩ = some (.int .u8 (f i))

theorem seqLen (b off len cap i : Nat) (f : Nat → Int) (w : World) (hb : Bytes w b off len f) (hi : i < len) (hl : len ≤ 1048576) :
    Calls Try.prog 8 #[.slice (some ⟨b, off, none⟩) len cap, .int .i64 i] w fun e w' => e = .returned (.int .i64 (Plain.seq f len i)) ∧ w' = w :=
  seqLen_any b off len cap i (f i) (f (i + 1)) (f (i + 2)) (f (i + 3)) w hi hl (hb _ hi) (fun h => hb _ h) (fun h => hb _ h) (fun h => hb _ h)

theorem valid_none (a : Option Addr) (cap : Nat) (w : World) :
    Calls Try.prog 7 #[.slice a 0 cap] w fun e w' => e = .returned (.bool true) ∧ w' = w := by
  go_enter Try.func7, Try.ntmps7
  go_wp2
  refine wp_loop_rounds 1 ?_
  rw [rounds_succ]
  go_wp2
  go_ret
  exact ⟨rfl, rfl⟩

set_option maxHeartbeats 1000000 in
theorem valid_any (b off len cap : Nat) (f : Nat → Int) (w : World) (hb : Bytes w b off len f) (hl : len ≤ 1048576) :
    Calls Try.prog 7 #[.slice (some ⟨b, off, none⟩) len cap] w fun e w' => e = .returned (.bool (Plain.V f len 0)) ∧ w' = w := by
  go_enter Try.func7, Try.ntmps7
  go_wp2
  go_loop [3, 4] (fun i _ => ∃ k : Nat, k ≤ len ∧ i = .int .i64 k ∧ Plain.V f len k = Plain.V f len 0) (fun i _ => len - (intOf i).toNat)
  case atStart => exact ⟨0, Nat.zero_le _, rfl, rfl⟩
  case round =>
    obtain ⟨k, hk, rfl, hv⟩ := hrel
    have HV : Hid (Plain.V f len k = Plain.V f len 0) := hv
    clear hv
    by_cases hlt : k < len
    · have he := Plain.seq_end (f := f) (Nat.le_of_lt hlt)
      by_cases h0 : Plain.seq f len k = 0
      · have hv0 := Plain.V_zero hlt h0
        rw [HV.out] at hv0
        have HV0 : Hid (Plain.V f len 0 = false) := hv0
        have H0 : Hid (Plain.seq f len k = 0) := h0
        clear hv0 h0
        go_wp2_with fail
        refine (seqLen b off len cap k f _ hb hlt hl).mono ?_
        rintro e w' ⟨rfl, rfl⟩
        rw [H0.out]
        go_wp2
        go_ret
        exact ⟨by rw [HV0.out]; rfl, rfl⟩
      · have hv0 := Plain.V_step hlt h0
        rw [HV.out] at hv0
        have HV0 : Hid (Plain.V f len 0 = Plain.V f len (k + Plain.seq f len k)) := hv0
        have h0' : ((Plain.seq f len k : Int) == 0) = false := by simp; omega
        clear hv0
        go_wp2_with fail
        refine (seqLen b off len cap k f _ hb hlt hl).mono ?_
        rintro e w' ⟨rfl, rfl⟩
        generalize hs : Plain.seq f len k = s at *
        go_wp2
        go_round
        case rel => exact ⟨k + s, by omega, by go_num, HV0.out.symm⟩
        case measure => simp [intOf]; omega
    · have e : k = len := by omega
      have hv0 : Plain.V f len 0 = true := by rw [← HV.out]; exact Plain.V_end (by omega)
      have HV0 : Hid (Plain.V f len 0 = true) := hv0
      clear hv0 e
      go_wp2
      go_ret
      exact ⟨by rw [HV0.out]; rfl, rfl⟩

/-- the program's own bound on lengths: within it -/
theorem bytes4_yes (a : Option Addr) (len cap : Nat) (l : Int) (w : World) (h : len ≤ 1048576) :
    Calls Try.prog 9 #[.slice a len cap, .int .i64 l] w fun e w' => e = .returned (.bool true) ∧ w' = w := by
  go_enter Try.func9, Try.ntmps9
  go_wp2
  go_ret
  exact ⟨rfl, rfl⟩
theorem bytes4_no (a : Option Addr) (len cap : Nat) (l : Int) (w : World) (h : ¬ len ≤ 1048576) :
    Calls Try.prog 9 #[.slice a len cap, .int .i64 l] w fun e w' => e = .returned (.bool false) ∧ w' = w := by
  have h' : (1048576 : Int) < (len : Int) := by omega
  go_enter Try.func9, Try.ntmps9
  go_wp2
  go_ret
  exact ⟨rfl, rfl⟩
theorem bytes3_yes (a : Option Addr) (len cap : Nat) (l : Int) (w : World) (h : len ≤ 1048576) :
    Calls Try.prog 5 #[.slice a len cap, .int .i64 l] w fun e w' => e = .returned (.bool true) ∧ w' = w := by
  go_enter Try.func5, Try.ntmps5
  go_wp2
  go_ret
  exact ⟨rfl, rfl⟩
theorem bytes3_no (a : Option Addr) (len cap : Nat) (l : Int) (w : World) (h : ¬ len ≤ 1048576) :
    Calls Try.prog 5 #[.slice a len cap, .int .i64 l] w fun e w' => e = .returned (.bool false) ∧ w' = w := by
  have h' : (1048576 : Int) < (len : Int) := by omega
  go_enter Try.func5, Try.ntmps5
  go_wp2
  go_ret
  exact ⟨rfl, rfl⟩

end Go.Proofs.Qxb6627522a
