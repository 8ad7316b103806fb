import Derived.Test.Qxb6627522aPlain
import Derived.Test.Qxb6627522aChecked
import Derived.WalkKit
import Derived.ProofKit
import Derived.OpenShut
namespace Go.Proofs.Qxb6627522a
open Go.ChangeShapes Go.WideShapes Go.ChangeAt Go.RowKit
set_option linter.unusedVariables false

theorem runeBits : ∀ n : Fin 256, (bits .and .u8 ((n.val : Nat) : Int) 192 != 128) = !(Plain.cont ((n.val : Nat) : Int)) := by decide +kernel

theorem runeStart (c : Int) (h0 : 0 ≤ c) (h1 : c ≤ 255) (w : World) :
    Calls Try.prog 10 #[.int .u8 c] w fun e w' => e = .returned (.bool (!(Plain.cont c))) ∧ w' = w := by
  have hb : (bits .and .u8 c 192 != 128) = !(Plain.cont c) := by
    obtain ⟨n, rfl⟩ := Int.eq_ofNat_of_zero_le h0
    exact runeBits ⟨n, by omega⟩
  go_enter Try.func10, Try.ntmps10
  go_wp2
  go_ret
  exact ⟨rfl, rfl⟩

set_option maxHeartbeats 2000000 in
theorem seqLen_ascii (b off len cap i : Nat) (c0 c1 c2 c3 : Int) (w : World) (hi : i < len) (hl : len ≤ 1048576)
    (h0 : w.cell? ⟨b, off + i, none⟩ = some (.int .u8 c0)) (h1 : i + 1 < len → w.cell? ⟨b, off + (i + 1), none⟩ = some (.int .u8 c1))
    (h2 : i + 2 < len → w.cell? ⟨b, off + (i + 2), none⟩ = some (.int .u8 c2)) (h3 : i + 3 < len → w.cell? ⟨b, off + (i + 3), none⟩ = some (.int .u8 c3))
    (k : c0 < 128) :
    Calls Try.prog 8 #[.slice (some ⟨b, off, none⟩) len cap, .int .i64 i] w fun e w' => e = .returned (.int .i64 (Plain.seqC (len - i) c0 c1 c2 c3)) ∧ w' = w := by
  clear h1 h2 h3
  have HF : Hid (Plain.seqC (len - i) c0 c1 c2 c3 = 1) := Plain.seqC_one k (by omega)
  go_enter Try.func8, Try.ntmps8
  go_wp2
  go_ret
  exact ⟨by rw [HF.out]; rfl, rfl⟩

set_option maxHeartbeats 2000000 in
theorem seqLen_bad (b off len cap i : Nat) (c0 c1 c2 c3 : Int) (w : World) (hi : i < len) (hl : len ≤ 1048576)
    (h0 : w.cell? ⟨b, off + i, none⟩ = some (.int .u8 c0)) (h1 : i + 1 < len → w.cell? ⟨b, off + (i + 1), none⟩ = some (.int .u8 c1))
    (h2 : i + 2 < len → w.cell? ⟨b, off + (i + 2), none⟩ = some (.int .u8 c2)) (h3 : i + 3 < len → w.cell? ⟨b, off + (i + 3), none⟩ = some (.int .u8 c3))
    (k : (128 ≤ c0 ∧ c0 < 194) ∨ 244 < c0) :
    Calls Try.prog 8 #[.slice (some ⟨b, off, none⟩) len cap, .int .i64 i] w fun e w' => e = .returned (.int .i64 (Plain.seqC (len - i) c0 c1 c2 c3)) ∧ w' = w := by
  have k0 : ¬ c0 < 128 := by omega
  have hn : Plain.need c0 = 0 := by unfold Plain.need; (repeat' split) <;> omega
  have hL : Plain.lo c0 = 128 := by unfold Plain.lo; (repeat' split) <;> omega
  have hH : Plain.hi c0 = 191 := by unfold Plain.hi; (repeat' split) <;> omega
  clear h1 h2 h3
  have HF : Hid (Plain.seqC (len - i) c0 c1 c2 c3 = 0) := Plain.seqC_no k0 hn hL hH (by omega)
  clear hn hL hH k0
  rcases k with ⟨k, k'⟩ | k
  · have e1 : (c0 == 224) = false := by simp; omega
    have e2 : (c0 == 237) = false := by simp; omega
    have e3 : (c0 == 240) = false := by simp; omega
    have e4 : (c0 == 244) = false := by simp; omega
    go_enter Try.func8, Try.ntmps8
    go_wp2
    go_ret
    exact ⟨by rw [HF.out]; rfl, rfl⟩
  · have e1 : (c0 == 224) = false := by simp; omega
    have e2 : (c0 == 237) = false := by simp; omega
    have e3 : (c0 == 240) = false := by simp; omega
    have e4 : (c0 == 244) = false := by simp; omega
    go_enter Try.func8, Try.ntmps8
    go_wp2
    go_ret
    exact ⟨by rw [HF.out]; rfl, rfl⟩

set_option maxHeartbeats 2000000 in
theorem seqLen_two (b off len cap i : Nat) (c0 c1 c2 c3 : Int) (w : World) (hi : i < len) (hl : len ≤ 1048576)
    (h0 : w.cell? ⟨b, off + i, none⟩ = some (.int .u8 c0)) (h1 : i + 1 < len → w.cell? ⟨b, off + (i + 1), none⟩ = some (.int .u8 c1))
    (h2 : i + 2 < len → w.cell? ⟨b, off + (i + 2), none⟩ = some (.int .u8 c2)) (h3 : i + 3 < len → w.cell? ⟨b, off + (i + 3), none⟩ = some (.int .u8 c3))
    (k : 194 ≤ c0) (k' : c0 ≤ 223) :
    Calls Try.prog 8 #[.slice (some ⟨b, off, none⟩) len cap, .int .i64 i] w fun e w' => e = .returned (.int .i64 (Plain.seqC (len - i) c0 c1 c2 c3)) ∧ w' = w := by
  have k0 : ¬ c0 < 128 := by omega
  have hn : Plain.need c0 = 2 := by unfold Plain.need; (repeat' split) <;> omega
  have hL : Plain.lo c0 = 128 := by unfold Plain.lo; (repeat' split) <;> omega
  have hH : Plain.hi c0 = 191 := by unfold Plain.hi; (repeat' split) <;> omega
  by_cases hlen : ¬ i + 2 ≤ len
  · clear h1 h2 h3
    have HF : Hid (Plain.seqC (len - i) c0 c1 c2 c3 = 0) := Plain.seqC_no (by omega) hn hL hH (by omega)
    clear hn hL hH
    go_enter Try.func8, Try.ntmps8
    go_wp2
    go_ret
    exact ⟨by rw [HF.out]; rfl, rfl⟩
  have g1 := h1 (by omega)
  clear h1 h2 h3
  by_cases d1 : c1 < 128
  · have HF : Hid (Plain.seqC (len - i) c0 c1 c2 c3 = 0) := Plain.seqC_no (by omega) hn hL hH (by omega)
    clear hn hL hH
    go_enter Try.func8, Try.ntmps8
    go_wp2
    go_ret
    exact ⟨by rw [HF.out]; rfl, rfl⟩
  by_cases d2 : 191 < c1
  · have HF : Hid (Plain.seqC (len - i) c0 c1 c2 c3 = 0) := Plain.seqC_no (by omega) hn hL hH (by omega)
    clear hn hL hH
    go_enter Try.func8, Try.ntmps8
    go_wp2
    go_ret
    exact ⟨by rw [HF.out]; rfl, rfl⟩
  have HF : Hid (Plain.seqC (len - i) c0 c1 c2 c3 = 2) := Plain.seqC_yes (by omega) hn hL hH (by omega) (by omega) (by omega) (by omega) (by omega) (by omega)
  clear hn hL hH
  go_enter Try.func8, Try.ntmps8
  go_wp2
  refine wp_loop_rounds 1 ?_
  rw [rounds_succ]
  go_wp2
  go_ret
  exact ⟨by rw [HF.out]; rfl, rfl⟩

set_option maxHeartbeats 2000000 in
theorem seqLen_e0 (b off len cap i : Nat) (c0 c1 c2 c3 : Int) (w : World) (hi : i < len) (hl : len ≤ 1048576)
    (h0 : w.cell? ⟨b, off + i, none⟩ = some (.int .u8 c0)) (h1 : i + 1 < len → w.cell? ⟨b, off + (i + 1), none⟩ = some (.int .u8 c1))
    (h2 : i + 2 < len → w.cell? ⟨b, off + (i + 2), none⟩ = some (.int .u8 c2)) (h3 : i + 3 < len → w.cell? ⟨b, off + (i + 3), none⟩ = some (.int .u8 c3))
    (k : c0 = 224) :
    Calls Try.prog 8 #[.slice (some ⟨b, off, none⟩) len cap, .int .i64 i] w fun e w' => e = .returned (.int .i64 (Plain.seqC (len - i) c0 c1 c2 c3)) ∧ w' = w := by
  have k0 : ¬ c0 < 128 := by omega
  have hn : Plain.need c0 = 3 := by unfold Plain.need; (repeat' split) <;> omega
  have hL : Plain.lo c0 = 160 := by unfold Plain.lo; (repeat' split) <;> omega
  have hH : Plain.hi c0 = 191 := by unfold Plain.hi; (repeat' split) <;> omega
  subst k
  by_cases hlen : ¬ i + 3 ≤ len
  · clear h1 h2 h3
    have HF : Hid (Plain.seqC (len - i) 224 c1 c2 c3 = 0) := Plain.seqC_no (by omega) hn hL hH (by omega)
    clear hn hL hH
    go_enter Try.func8, Try.ntmps8
    go_wp2
    go_ret
    exact ⟨by rw [HF.out]; rfl, rfl⟩
  have g1 := h1 (by omega)
  have g2 := h2 (by omega)
  clear h1 h2 h3
  by_cases d1 : c1 < 160
  · have HF : Hid (Plain.seqC (len - i) 224 c1 c2 c3 = 0) := Plain.seqC_no (by omega) hn hL hH (by omega)
    clear hn hL hH
    go_enter Try.func8, Try.ntmps8
    go_wp2
    go_ret
    exact ⟨by rw [HF.out]; rfl, rfl⟩
  by_cases d2 : 191 < c1
  · have HF : Hid (Plain.seqC (len - i) 224 c1 c2 c3 = 0) := Plain.seqC_no (by omega) hn hL hH (by omega)
    clear hn hL hH
    go_enter Try.func8, Try.ntmps8
    go_wp2
    go_ret
    exact ⟨by rw [HF.out]; rfl, rfl⟩
  by_cases d3 : c2 < 128
  · have HF : Hid (Plain.seqC (len - i) 224 c1 c2 c3 = 0) := Plain.seqC_no (by omega) hn hL hH (by omega)
    clear hn hL hH
    go_enter Try.func8, Try.ntmps8
    go_wp2
    refine wp_loop_rounds 1 ?_
    rw [rounds_succ]
    go_wp2
    go_ret
    exact ⟨by rw [HF.out]; rfl, rfl⟩
  by_cases d4 : 191 < c2
  · have HF : Hid (Plain.seqC (len - i) 224 c1 c2 c3 = 0) := Plain.seqC_no (by omega) hn hL hH (by omega)
    clear hn hL hH
    go_enter Try.func8, Try.ntmps8
    go_wp2
    refine wp_loop_rounds 1 ?_
    rw [rounds_succ]
    go_wp2
    go_ret
    exact ⟨by rw [HF.out]; rfl, rfl⟩
  have HF : Hid (Plain.seqC (len - i) 224 c1 c2 c3 = 3) := Plain.seqC_yes (by omega) hn hL hH (by omega) (by omega) (by omega) (by omega) (by omega) (by omega)
  clear hn hL hH
  go_enter Try.func8, Try.ntmps8
  go_wp2
  refine wp_loop_rounds 2 ?_
  rw [rounds_succ]
  go_wp2
  rw [rounds_succ]
  go_wp2
  go_ret
  exact ⟨by rw [HF.out]; rfl, rfl⟩

set_option maxHeartbeats 2000000 in
theorem seqLen_ed (b off len cap i : Nat) (c0 c1 c2 c3 : Int) (w : World) (hi : i < len) (hl : len ≤ 1048576)
    (h0 : w.cell? ⟨b, off + i, none⟩ = some (.int .u8 c0)) (h1 : i + 1 < len → w.cell? ⟨b, off + (i + 1), none⟩ = some (.int .u8 c1))
    (h2 : i + 2 < len → w.cell? ⟨b, off + (i + 2), none⟩ = some (.int .u8 c2)) (h3 : i + 3 < len → w.cell? ⟨b, off + (i + 3), none⟩ = some (.int .u8 c3))
    (k : c0 = 237) :
    Calls Try.prog 8 #[.slice (some ⟨b, off, none⟩) len cap, .int .i64 i] w fun e w' => e = .returned (.int .i64 (Plain.seqC (len - i) c0 c1 c2 c3)) ∧ w' = w := by
  have k0 : ¬ c0 < 128 := by omega
  have hn : Plain.need c0 = 3 := by unfold Plain.need; (repeat' split) <;> omega
  have hL : Plain.lo c0 = 128 := by unfold Plain.lo; (repeat' split) <;> omega
  have hH : Plain.hi c0 = 159 := by unfold Plain.hi; (repeat' split) <;> omega
  subst k
  by_cases hlen : ¬ i + 3 ≤ len
  · clear h1 h2 h3
    have HF : Hid (Plain.seqC (len - i) 237 c1 c2 c3 = 0) := Plain.seqC_no (by omega) hn hL hH (by omega)
    clear hn hL hH
    go_enter Try.func8, Try.ntmps8
    go_wp2
    go_ret
    exact ⟨by rw [HF.out]; rfl, rfl⟩
  have g1 := h1 (by omega)
  have g2 := h2 (by omega)
  clear h1 h2 h3
  by_cases d1 : c1 < 128
  · have HF : Hid (Plain.seqC (len - i) 237 c1 c2 c3 = 0) := Plain.seqC_no (by omega) hn hL hH (by omega)
    clear hn hL hH
    go_enter Try.func8, Try.ntmps8
    go_wp2
    go_ret
    exact ⟨by rw [HF.out]; rfl, rfl⟩
  by_cases d2 : 159 < c1
  · have HF : Hid (Plain.seqC (len - i) 237 c1 c2 c3 = 0) := Plain.seqC_no (by omega) hn hL hH (by omega)
    clear hn hL hH
    go_enter Try.func8, Try.ntmps8
    go_wp2
    go_ret
    exact ⟨by rw [HF.out]; rfl, rfl⟩
  by_cases d3 : c2 < 128
  · have HF : Hid (Plain.seqC (len - i) 237 c1 c2 c3 = 0) := Plain.seqC_no (by omega) hn hL hH (by omega)
    clear hn hL hH
    go_enter Try.func8, Try.ntmps8
    go_wp2
    refine wp_loop_rounds 1 ?_
    rw [rounds_succ]
    go_wp2
    go_ret
    exact ⟨by rw [HF.out]; rfl, rfl⟩
  by_cases d4 : 191 < c2
  · have HF : Hid (Plain.seqC (len - i) 237 c1 c2 c3 = 0) := Plain.seqC_no (by omega) hn hL hH (by omega)
    clear hn hL hH
    go_enter Try.func8, Try.ntmps8
    go_wp2
    refine wp_loop_rounds 1 ?_
    rw [rounds_succ]
    go_wp2
    go_ret
    exact ⟨by rw [HF.out]; rfl, rfl⟩
  have HF : Hid (Plain.seqC (len - i) 237 c1 c2 c3 = 3) := Plain.seqC_yes (by omega) hn hL hH (by omega) (by omega) (by omega) (by omega) (by omega) (by omega)
  clear hn hL hH
  go_enter Try.func8, Try.ntmps8
  go_wp2
  refine wp_loop_rounds 2 ?_
  rw [rounds_succ]
  go_wp2
  rw [rounds_succ]
  go_wp2
  go_ret
  exact ⟨by rw [HF.out]; rfl, rfl⟩

set_option maxHeartbeats 2000000 in
theorem seqLen_ex (b off len cap i : Nat) (c0 c1 c2 c3 : Int) (w : World) (hi : i < len) (hl : len ≤ 1048576)
    (h0 : w.cell? ⟨b, off + i, none⟩ = some (.int .u8 c0)) (h1 : i + 1 < len → w.cell? ⟨b, off + (i + 1), none⟩ = some (.int .u8 c1))
    (h2 : i + 2 < len → w.cell? ⟨b, off + (i + 2), none⟩ = some (.int .u8 c2)) (h3 : i + 3 < len → w.cell? ⟨b, off + (i + 3), none⟩ = some (.int .u8 c3))
    (k : (225 ≤ c0 ∧ c0 ≤ 236) ∨ (238 ≤ c0 ∧ c0 ≤ 239)) :
    Calls Try.prog 8 #[.slice (some ⟨b, off, none⟩) len cap, .int .i64 i] w fun e w' => e = .returned (.int .i64 (Plain.seqC (len - i) c0 c1 c2 c3)) ∧ w' = w := by
  have k0 : ¬ c0 < 128 := by omega
  have hn : Plain.need c0 = 3 := by unfold Plain.need; (repeat' split) <;> omega
  have hL : Plain.lo c0 = 128 := by unfold Plain.lo; (repeat' split) <;> omega
  have hH : Plain.hi c0 = 191 := by unfold Plain.hi; (repeat' split) <;> omega
  have e1 : (c0 == 224) = false := by simp; omega
  have e2 : (c0 == 237) = false := by simp; omega
  have e3 : (c0 == 240) = false := by simp; omega
  have e4 : (c0 == 244) = false := by simp; omega
  have k5 : 225 ≤ c0 := by omega
  have k6 : c0 ≤ 239 := by omega
  clear k
  by_cases hlen : ¬ i + 3 ≤ len
  · clear h1 h2 h3
    have HF : Hid (Plain.seqC (len - i) c0 c1 c2 c3 = 0) := Plain.seqC_no (by omega) hn hL hH (by omega)
    clear hn hL hH
    go_enter Try.func8, Try.ntmps8
    go_wp2
    go_ret
    exact ⟨by rw [HF.out]; rfl, rfl⟩
  have g1 := h1 (by omega)
  have g2 := h2 (by omega)
  clear h1 h2 h3
  by_cases d1 : c1 < 128
  · have HF : Hid (Plain.seqC (len - i) c0 c1 c2 c3 = 0) := Plain.seqC_no (by omega) hn hL hH (by omega)
    clear hn hL hH
    go_enter Try.func8, Try.ntmps8
    go_wp2
    go_ret
    exact ⟨by rw [HF.out]; rfl, rfl⟩
  by_cases d2 : 191 < c1
  · have HF : Hid (Plain.seqC (len - i) c0 c1 c2 c3 = 0) := Plain.seqC_no (by omega) hn hL hH (by omega)
    clear hn hL hH
    go_enter Try.func8, Try.ntmps8
    go_wp2
    go_ret
    exact ⟨by rw [HF.out]; rfl, rfl⟩
  by_cases d3 : c2 < 128
  · have HF : Hid (Plain.seqC (len - i) c0 c1 c2 c3 = 0) := Plain.seqC_no (by omega) hn hL hH (by omega)
    clear hn hL hH
    go_enter Try.func8, Try.ntmps8
    go_wp2
    refine wp_loop_rounds 1 ?_
    rw [rounds_succ]
    go_wp2
    go_ret
    exact ⟨by rw [HF.out]; rfl, rfl⟩
  by_cases d4 : 191 < c2
  · have HF : Hid (Plain.seqC (len - i) c0 c1 c2 c3 = 0) := Plain.seqC_no (by omega) hn hL hH (by omega)
    clear hn hL hH
    go_enter Try.func8, Try.ntmps8
    go_wp2
    refine wp_loop_rounds 1 ?_
    rw [rounds_succ]
    go_wp2
    go_ret
    exact ⟨by rw [HF.out]; rfl, rfl⟩
  have HF : Hid (Plain.seqC (len - i) c0 c1 c2 c3 = 3) := Plain.seqC_yes (by omega) hn hL hH (by omega) (by omega) (by omega) (by omega) (by omega) (by omega)
  clear hn hL hH
  go_enter Try.func8, Try.ntmps8
  go_wp2
  refine wp_loop_rounds 2 ?_
  rw [rounds_succ]
  go_wp2
  rw [rounds_succ]
  go_wp2
  go_ret
  exact ⟨by rw [HF.out]; rfl, rfl⟩

set_option maxHeartbeats 2000000 in
theorem seqLen_f0 (b off len cap i : Nat) (c0 c1 c2 c3 : Int) (w : World) (hi : i < len) (hl : len ≤ 1048576)
    (h0 : w.cell? ⟨b, off + i, none⟩ = some (.int .u8 c0)) (h1 : i + 1 < len → w.cell? ⟨b, off + (i + 1), none⟩ = some (.int .u8 c1))
    (h2 : i + 2 < len → w.cell? ⟨b, off + (i + 2), none⟩ = some (.int .u8 c2)) (h3 : i + 3 < len → w.cell? ⟨b, off + (i + 3), none⟩ = some (.int .u8 c3))
    (k : c0 = 240) :
    Calls Try.prog 8 #[.slice (some ⟨b, off, none⟩) len cap, .int .i64 i] w fun e w' => e = .returned (.int .i64 (Plain.seqC (len - i) c0 c1 c2 c3)) ∧ w' = w := by
  have k0 : ¬ c0 < 128 := by omega
  have hn : Plain.need c0 = 4 := by unfold Plain.need; (repeat' split) <;> omega
  have hL : Plain.lo c0 = 144 := by unfold Plain.lo; (repeat' split) <;> omega
  have hH : Plain.hi c0 = 191 := by unfold Plain.hi; (repeat' split) <;> omega
  subst k
  by_cases hlen : ¬ i + 4 ≤ len
  · clear h1 h2 h3
    have HF : Hid (Plain.seqC (len - i) 240 c1 c2 c3 = 0) := Plain.seqC_no (by omega) hn hL hH (by omega)
    clear hn hL hH
    go_enter Try.func8, Try.ntmps8
    go_wp2
    go_ret
    exact ⟨by rw [HF.out]; rfl, rfl⟩
  have g1 := h1 (by omega)
  have g2 := h2 (by omega)
  have g3 := h3 (by omega)
  clear h1 h2 h3
  by_cases d1 : c1 < 144
  · have HF : Hid (Plain.seqC (len - i) 240 c1 c2 c3 = 0) := Plain.seqC_no (by omega) hn hL hH (by omega)
    clear hn hL hH
    go_enter Try.func8, Try.ntmps8
    go_wp2
    go_ret
    exact ⟨by rw [HF.out]; rfl, rfl⟩
  by_cases d2 : 191 < c1
  · have HF : Hid (Plain.seqC (len - i) 240 c1 c2 c3 = 0) := Plain.seqC_no (by omega) hn hL hH (by omega)
    clear hn hL hH
    go_enter Try.func8, Try.ntmps8
    go_wp2
    go_ret
    exact ⟨by rw [HF.out]; rfl, rfl⟩
  by_cases d3 : c2 < 128
  · have HF : Hid (Plain.seqC (len - i) 240 c1 c2 c3 = 0) := Plain.seqC_no (by omega) hn hL hH (by omega)
    clear hn hL hH
    go_enter Try.func8, Try.ntmps8
    go_wp2
    refine wp_loop_rounds 1 ?_
    rw [rounds_succ]
    go_wp2
    go_ret
    exact ⟨by rw [HF.out]; rfl, rfl⟩
  by_cases d4 : 191 < c2
  · have HF : Hid (Plain.seqC (len - i) 240 c1 c2 c3 = 0) := Plain.seqC_no (by omega) hn hL hH (by omega)
    clear hn hL hH
    go_enter Try.func8, Try.ntmps8
    go_wp2
    refine wp_loop_rounds 1 ?_
    rw [rounds_succ]
    go_wp2
    go_ret
    exact ⟨by rw [HF.out]; rfl, rfl⟩
  by_cases d5 : c3 < 128
  · have HF : Hid (Plain.seqC (len - i) 240 c1 c2 c3 = 0) := Plain.seqC_no (by omega) hn hL hH (by omega)
    clear hn hL hH
    go_enter Try.func8, Try.ntmps8
    go_wp2
    refine wp_loop_rounds 2 ?_
    rw [rounds_succ]
    go_wp2
    rw [rounds_succ]
    go_wp2
    go_ret
    exact ⟨by rw [HF.out]; rfl, rfl⟩
  by_cases d6 : 191 < c3
  · have HF : Hid (Plain.seqC (len - i) 240 c1 c2 c3 = 0) := Plain.seqC_no (by omega) hn hL hH (by omega)
    clear hn hL hH
    go_enter Try.func8, Try.ntmps8
    go_wp2
    refine wp_loop_rounds 2 ?_
    rw [rounds_succ]
    go_wp2
    rw [rounds_succ]
    go_wp2
    go_ret
    exact ⟨by rw [HF.out]; rfl, rfl⟩
  have HF : Hid (Plain.seqC (len - i) 240 c1 c2 c3 = 4) := Plain.seqC_yes (by omega) hn hL hH (by omega) (by omega) (by omega) (by omega) (by omega) (by omega)
  clear hn hL hH
  go_enter Try.func8, Try.ntmps8
  go_wp2
  refine wp_loop_rounds 3 ?_
  rw [rounds_succ]
  go_wp2
  rw [rounds_succ]
  go_wp2
  rw [rounds_succ]
  go_wp2
  go_ret
  exact ⟨by rw [HF.out]; rfl, rfl⟩

set_option maxHeartbeats 2000000 in
theorem seqLen_f4 (b off len cap i : Nat) (c0 c1 c2 c3 : Int) (w : World) (hi : i < len) (hl : len ≤ 1048576)
    (h0 : w.cell? ⟨b, off + i, none⟩ = some (.int .u8 c0)) (h1 : i + 1 < len → w.cell? ⟨b, off + (i + 1), none⟩ = some (.int .u8 c1))
    (h2 : i + 2 < len → w.cell? ⟨b, off + (i + 2), none⟩ = some (.int .u8 c2)) (h3 : i + 3 < len → w.cell? ⟨b, off + (i + 3), none⟩ = some (.int .u8 c3))
    (k : c0 = 244) :
    Calls Try.prog 8 #[.slice (some ⟨b, off, none⟩) len cap, .int .i64 i] w fun e w' => e = .returned (.int .i64 (Plain.seqC (len - i) c0 c1 c2 c3)) ∧ w' = w := by
  have k0 : ¬ c0 < 128 := by omega
  have hn : Plain.need c0 = 4 := by unfold Plain.need; (repeat' split) <;> omega
  have hL : Plain.lo c0 = 128 := by unfold Plain.lo; (repeat' split) <;> omega
  have hH : Plain.hi c0 = 143 := by unfold Plain.hi; (repeat' split) <;> omega
  subst k
  by_cases hlen : ¬ i + 4 ≤ len
  · clear h1 h2 h3
    have HF : Hid (Plain.seqC (len - i) 244 c1 c2 c3 = 0) := Plain.seqC_no (by omega) hn hL hH (by omega)
    clear hn hL hH
    go_enter Try.func8, Try.ntmps8
    go_wp2
    go_ret
    exact ⟨by rw [HF.out]; rfl, rfl⟩
  have g1 := h1 (by omega)
  have g2 := h2 (by omega)
  have g3 := h3 (by omega)
  clear h1 h2 h3
  by_cases d1 : c1 < 128
  · have HF : Hid (Plain.seqC (len - i) 244 c1 c2 c3 = 0) := Plain.seqC_no (by omega) hn hL hH (by omega)
    clear hn hL hH
    go_enter Try.func8, Try.ntmps8
    go_wp2
    go_ret
    exact ⟨by rw [HF.out]; rfl, rfl⟩
  by_cases d2 : 143 < c1
  · have HF : Hid (Plain.seqC (len - i) 244 c1 c2 c3 = 0) := Plain.seqC_no (by omega) hn hL hH (by omega)
    clear hn hL hH
    go_enter Try.func8, Try.ntmps8
    go_wp2
    go_ret
    exact ⟨by rw [HF.out]; rfl, rfl⟩
  by_cases d3 : c2 < 128
  · have HF : Hid (Plain.seqC (len - i) 244 c1 c2 c3 = 0) := Plain.seqC_no (by omega) hn hL hH (by omega)
    clear hn hL hH
    go_enter Try.func8, Try.ntmps8
    go_wp2
    refine wp_loop_rounds 1 ?_
    rw [rounds_succ]
    go_wp2
    go_ret
    exact ⟨by rw [HF.out]; rfl, rfl⟩
  by_cases d4 : 191 < c2
  · have HF : Hid (Plain.seqC (len - i) 244 c1 c2 c3 = 0) := Plain.seqC_no (by omega) hn hL hH (by omega)
    clear hn hL hH
    go_enter Try.func8, Try.ntmps8
    go_wp2
    refine wp_loop_rounds 1 ?_
    rw [rounds_succ]
    go_wp2
    go_ret
    exact ⟨by rw [HF.out]; rfl, rfl⟩
  by_cases d5 : c3 < 128
  · have HF : Hid (Plain.seqC (len - i) 244 c1 c2 c3 = 0) := Plain.seqC_no (by omega) hn hL hH (by omega)
    clear hn hL hH
    go_enter Try.func8, Try.ntmps8
    go_wp2
    refine wp_loop_rounds 2 ?_
    rw [rounds_succ]
    go_wp2
    rw [rounds_succ]
    go_wp2
    go_ret
    exact ⟨by rw [HF.out]; rfl, rfl⟩
  by_cases d6 : 191 < c3
  · have HF : Hid (Plain.seqC (len - i) 244 c1 c2 c3 = 0) := Plain.seqC_no (by omega) hn hL hH (by omega)
    clear hn hL hH
    go_enter Try.func8, Try.ntmps8
    go_wp2
    refine wp_loop_rounds 2 ?_
    rw [rounds_succ]
    go_wp2
    rw [rounds_succ]
    go_wp2
    go_ret
    exact ⟨by rw [HF.out]; rfl, rfl⟩
  have HF : Hid (Plain.seqC (len - i) 244 c1 c2 c3 = 4) := Plain.seqC_yes (by omega) hn hL hH (by omega) (by omega) (by omega) (by omega) (by omega) (by omega)
  clear hn hL hH
  go_enter Try.func8, Try.ntmps8
  go_wp2
  refine wp_loop_rounds 3 ?_
  rw [rounds_succ]
  go_wp2
  rw [rounds_succ]
  go_wp2
  rw [rounds_succ]
  go_wp2
  go_ret
  exact ⟨by rw [HF.out]; rfl, rfl⟩

set_option maxHeartbeats 2000000 in
theorem seqLen_fx (b off len cap i : Nat) (c0 c1 c2 c3 : Int) (w : World) (hi : i < len) (hl : len ≤ 1048576)
    (h0 : w.cell? ⟨b, off + i, none⟩ = some (.int .u8 c0)) (h1 : i + 1 < len → w.cell? ⟨b, off + (i + 1), none⟩ = some (.int .u8 c1))
    (h2 : i + 2 < len → w.cell? ⟨b, off + (i + 2), none⟩ = some (.int .u8 c2)) (h3 : i + 3 < len → w.cell? ⟨b, off + (i + 3), none⟩ = some (.int .u8 c3))
    (k : 241 ≤ c0) (k' : c0 ≤ 243) :
    Calls Try.prog 8 #[.slice (some ⟨b, off, none⟩) len cap, .int .i64 i] w fun e w' => e = .returned (.int .i64 (Plain.seqC (len - i) c0 c1 c2 c3)) ∧ w' = w := by
  have k0 : ¬ c0 < 128 := by omega
  have hn : Plain.need c0 = 4 := by unfold Plain.need; (repeat' split) <;> omega
  have hL : Plain.lo c0 = 128 := by unfold Plain.lo; (repeat' split) <;> omega
  have hH : Plain.hi c0 = 191 := by unfold Plain.hi; (repeat' split) <;> omega
  have e1 : (c0 == 224) = false := by simp; omega
  have e2 : (c0 == 237) = false := by simp; omega
  have e3 : (c0 == 240) = false := by simp; omega
  have e4 : (c0 == 244) = false := by simp; omega
  have k5 : 225 ≤ c0 := by omega
  have k6 : c0 ≤ 243 := by omega
  by_cases hlen : ¬ i + 4 ≤ len
  · clear h1 h2 h3
    have HF : Hid (Plain.seqC (len - i) c0 c1 c2 c3 = 0) := Plain.seqC_no (by omega) hn hL hH (by omega)
    clear hn hL hH
    go_enter Try.func8, Try.ntmps8
    go_wp2
    go_ret
    exact ⟨by rw [HF.out]; rfl, rfl⟩
  have g1 := h1 (by omega)
  have g2 := h2 (by omega)
  have g3 := h3 (by omega)
  clear h1 h2 h3
  by_cases d1 : c1 < 128
  · have HF : Hid (Plain.seqC (len - i) c0 c1 c2 c3 = 0) := Plain.seqC_no (by omega) hn hL hH (by omega)
    clear hn hL hH
    go_enter Try.func8, Try.ntmps8
    go_wp2
    go_ret
    exact ⟨by rw [HF.out]; rfl, rfl⟩
  by_cases d2 : 191 < c1
  · have HF : Hid (Plain.seqC (len - i) c0 c1 c2 c3 = 0) := Plain.seqC_no (by omega) hn hL hH (by omega)
    clear hn hL hH
    go_enter Try.func8, Try.ntmps8
    go_wp2
    go_ret
    exact ⟨by rw [HF.out]; rfl, rfl⟩
  by_cases d3 : c2 < 128
  · have HF : Hid (Plain.seqC (len - i) c0 c1 c2 c3 = 0) := Plain.seqC_no (by omega) hn hL hH (by omega)
    clear hn hL hH
    go_enter Try.func8, Try.ntmps8
    go_wp2
    refine wp_loop_rounds 1 ?_
    rw [rounds_succ]
    go_wp2
    go_ret
    exact ⟨by rw [HF.out]; rfl, rfl⟩
  by_cases d4 : 191 < c2
  · have HF : Hid (Plain.seqC (len - i) c0 c1 c2 c3 = 0) := Plain.seqC_no (by omega) hn hL hH (by omega)
    clear hn hL hH
    go_enter Try.func8, Try.ntmps8
    go_wp2
    refine wp_loop_rounds 1 ?_
    rw [rounds_succ]
    go_wp2
    go_ret
    exact ⟨by rw [HF.out]; rfl, rfl⟩
  by_cases d5 : c3 < 128
  · have HF : Hid (Plain.seqC (len - i) c0 c1 c2 c3 = 0) := Plain.seqC_no (by omega) hn hL hH (by omega)
    clear hn hL hH
    go_enter Try.func8, Try.ntmps8
    go_wp2
    refine wp_loop_rounds 2 ?_
    rw [rounds_succ]
    go_wp2
    rw [rounds_succ]
    go_wp2
    go_ret
    exact ⟨by rw [HF.out]; rfl, rfl⟩
  by_cases d6 : 191 < c3
  · have HF : Hid (Plain.seqC (len - i) c0 c1 c2 c3 = 0) := Plain.seqC_no (by omega) hn hL hH (by omega)
    clear hn hL hH
    go_enter Try.func8, Try.ntmps8
    go_wp2
    refine wp_loop_rounds 2 ?_
    rw [rounds_succ]
    go_wp2
    rw [rounds_succ]
    go_wp2
    go_ret
    exact ⟨by rw [HF.out]; rfl, rfl⟩
  have HF : Hid (Plain.seqC (len - i) c0 c1 c2 c3 = 4) := Plain.seqC_yes (by omega) hn hL hH (by omega) (by omega) (by omega) (by omega) (by omega) (by omega)
  clear hn hL hH
  go_enter Try.func8, Try.ntmps8
  go_wp2
  refine wp_loop_rounds 3 ?_
  rw [rounds_succ]
  go_wp2
  rw [rounds_succ]
  go_wp2
  rw [rounds_succ]
  go_wp2
  go_ret
  exact ⟨by rw [HF.out]; rfl, rfl⟩

/-- zzSeqLen answers seqC and leaves the world alone -/
theorem seqLen_any (b off len cap i : Nat) (c0 c1 c2 c3 : Int) (w : World) (hi : i < len) (hl : len ≤ 1048576)
    (h0 : w.cell? ⟨b, off + i, none⟩ = some (.int .u8 c0)) (h1 : i + 1 < len → w.cell? ⟨b, off + (i + 1), none⟩ = some (.int .u8 c1))
    (h2 : i + 2 < len → w.cell? ⟨b, off + (i + 2), none⟩ = some (.int .u8 c2)) (h3 : i + 3 < len → w.cell? ⟨b, off + (i + 3), none⟩ = some (.int .u8 c3)) :
    Calls Try.prog 8 #[.slice (some ⟨b, off, none⟩) len cap, .int .i64 i] w fun e w' => e = .returned (.int .i64 (Plain.seqC (len - i) c0 c1 c2 c3)) ∧ w' = w := by
  by_cases a1 : c0 < 128
  · exact seqLen_ascii b off len cap i c0 c1 c2 c3 w hi hl h0 h1 h2 h3 a1
  by_cases a2 : c0 < 194
  · exact seqLen_bad b off len cap i c0 c1 c2 c3 w hi hl h0 h1 h2 h3 (.inl ⟨by omega, a2⟩)
  by_cases a3 : c0 ≤ 223
  · exact seqLen_two b off len cap i c0 c1 c2 c3 w hi hl h0 h1 h2 h3 (by omega) a3
  by_cases a4 : c0 = 224
  · exact seqLen_e0 b off len cap i c0 c1 c2 c3 w hi hl h0 h1 h2 h3 a4
  by_cases a5 : c0 = 237
  · exact seqLen_ed b off len cap i c0 c1 c2 c3 w hi hl h0 h1 h2 h3 a5
  by_cases a6 : c0 ≤ 239
  · exact seqLen_ex b off len cap i c0 c1 c2 c3 w hi hl h0 h1 h2 h3 (by omega)
  by_cases a7 : c0 = 240
  · exact seqLen_f0 b off len cap i c0 c1 c2 c3 w hi hl h0 h1 h2 h3 a7
  by_cases a8 : c0 = 244
  · exact seqLen_f4 b off len cap i c0 c1 c2 c3 w hi hl h0 h1 h2 h3 a8
  by_cases a9 : c0 ≤ 243
  · exact seqLen_fx b off len cap i c0 c1 c2 c3 w hi hl h0 h1 h2 h3 (by omega) a9
  exact seqLen_bad b off len cap i c0 c1 c2 c3 w hi hl h0 h1 h2 h3 (.inr (by omega))

end Go.Proofs.Qxb6627522a
