import Derived.Test.Qxb6627563aAllows
namespace Go.Proofs.Qxb6627563a
open Go.ChangeShapes Go.WideShapes Go.ChangeAt Go.RowKit
set_option linter.unusedVariables false

theorem add_any (n l : Int) (w : World) (h0 : 0 ≤ n) (h1 : n ≤ 1048577) :
    Calls Try.prog 13 #[.int .i64 n, .int .i64 l] w fun e w' => ∃ r : Int, e = .returned (.int .i64 r) ∧ 0 ≤ r ∧ r ≤ 1048577 ∧ w' = w := by
  by_cases a : 1048576 < n
  · go_enter Try.func13, Try.ntmps13
    go_wp2
    go_ret
    exact ⟨_, rfl, by omega, by omega, rfl⟩
  by_cases b : l < 0
  · go_enter Try.func13, Try.ntmps13
    go_wp2
    go_ret
    exact ⟨_, rfl, by omega, by omega, rfl⟩
  by_cases c : 1048576 - n < l
  · go_enter Try.func13, Try.ntmps13
    go_wp2
    go_ret
    exact ⟨_, rfl, by omega, by omega, rfl⟩
  go_enter Try.func13, Try.ntmps13
  go_wp2
  go_ret
  exact ⟨n + l, rfl, by omega, by omega, rfl⟩

set_option maxHeartbeats 4000000 in
theorem bytes_any (td rn ot rel ut ui ur vt vi vr : ByteArray) (a : Option Addr) (len cap : Nat) (ty rl : Nat → ByteArray) (wc : Nat → Bool) (w : World) (hr : Refs w a len ty rl wc) (hl : len ≤ 65536) :
    Calls Try.prog 6 #[.string td, .string rn, .string ot, .string rel, .agg #[.string ut, .string ui, .string ur], .agg #[.string vt, .string vi, .string vr], .slice a len cap] w fun e w' =>
      (∃ r : Int, e = .returned (.int .i64 r)) ∧ Below w.heap.size w w' := by
  have HR := hid hr
  clear hr
  go_enter Try.func6, Try.ntmps6
  go_wp2_with (go_at_call 13; refine (add_any _ _ _ (by omega) (by omega)).mono ?_; rintro e w' ⟨r, rfl, hr0, hr1, rfl⟩)
  have hbW : Below w.heap.size w ((w.alloc (.cells #[.string ut, .string ui, .string ur] 24)).alloc (.cells #[.string vt, .string vi, .string vr] 24)) := below_alloc2 _ _ _
  have HRW := hid (HR.out.later hbW)
  generalize (w.alloc (.cells #[.string ut, .string ui, .string ur] 24)).alloc (.cells #[.string vt, .string vi, .string vr] 24) = W at hbW HRW ⊢
  go_loop [15, 16] (fun n i => ∃ (k : Nat) (r : Int), k ≤ len ∧ 0 ≤ r ∧ r ≤ 1048577 ∧ n = .int .i64 r ∧ i = .int .i64 k) (fun _ i => len - (intOf i).toNat)
  case atStart => exact ⟨0, r, by omega, hr0, hr1, rfl, rfl⟩
  case round =>
    obtain ⟨k, r, hk, hr0, hr1, rfl, rfl⟩ := hrel
    by_cases hlt : k < len
    · by_cases hrl : r ≤ 1048576
      · obtain ⟨b, off, rfl, hbl, g1, g2, g3⟩ := HRW.out k hlt
        have hk0 : (0 : Int) ≤ (k : Int) := by omega
        have hkl : (k : Int) < (len : Int) := by omega
        go_wp2_with (go_at_call 13; refine (add_any _ _ _ (by omega) (by omega)).mono ?_; rintro e w' ⟨r, rfl, hr0, hr1, rfl⟩)
        go_round
        case rel => exact ⟨k + 1, r, by omega, hr0, hr1, rfl, by go_num⟩
        case measure => simp [intOf]; omega
      · go_wp2_with fail
        go_ret
        exact ⟨⟨_, rfl⟩, hbW⟩
    · go_wp2_with fail
      go_ret
      exact ⟨⟨_, rfl⟩, hbW⟩

def IsBool (e : Ending) : Prop := ∃ b : Bool, e = .returned (.bool b)
theorem isBool {e : Ending} {b : Bool} (h : e = .returned (.bool b)) : IsBool e := ⟨b, h⟩

theorem two_boxes (w : World) (a b c d e f : Value) (t t' : TypeId) :
    ((w.alloc (.cells #[a, b, c] t)).alloc (.cells #[d, e, f] t')).cell? ⟨w.heap.size, 0, none⟩ = some a ∧ ((w.alloc (.cells #[a, b, c] t)).alloc (.cells #[d, e, f] t')).cell? ⟨w.heap.size, 1, none⟩ = some b ∧
    ((w.alloc (.cells #[a, b, c] t)).alloc (.cells #[d, e, f] t')).cell? ⟨w.heap.size, 2, none⟩ = some c ∧ ((w.alloc (.cells #[a, b, c] t)).alloc (.cells #[d, e, f] t')).cell? ⟨w.heap.size + 1, 0, none⟩ = some d ∧
    ((w.alloc (.cells #[a, b, c] t)).alloc (.cells #[d, e, f] t')).cell? ⟨w.heap.size + 1, 1, none⟩ = some e ∧ ((w.alloc (.cells #[a, b, c] t)).alloc (.cells #[d, e, f] t')).cell? ⟨w.heap.size + 1, 2, none⟩ = some f := by
  refine ⟨?_, ?_, ?_, ?_, ?_, ?_⟩
  · rw [World.cell?_alloc_past _ _ _ (by simp), World.cell?_alloc_at _ _ _ _ rfl]; rfl
  · rw [World.cell?_alloc_past _ _ _ (by simp), World.cell?_alloc_at _ _ _ _ rfl]; rfl
  · rw [World.cell?_alloc_past _ _ _ (by simp), World.cell?_alloc_at _ _ _ _ rfl]; rfl
  · rw [World.cell?_alloc_at _ _ _ _ (by simp)]; rfl
  · rw [World.cell?_alloc_at _ _ _ _ (by simp)]; rfl
  · rw [World.cell?_alloc_at _ _ _ _ (by simp)]; rfl

theorem one_box (w : World) (a b c : Value) (t : TypeId) : (w.alloc (.cells #[a, b, c] t)).cell? ⟨w.heap.size, 0, none⟩ = some a ∧ (w.alloc (.cells #[a, b, c] t)).cell? ⟨w.heap.size, 1, none⟩ = some b ∧ (w.alloc (.cells #[a, b, c] t)).cell? ⟨w.heap.size, 2, none⟩ = some c := by
  refine ⟨?_, ?_, ?_⟩
  · rw [World.cell?_alloc_at _ _ _ _ rfl]; rfl
  · rw [World.cell?_alloc_at _ _ _ _ rfl]; rfl
  · rw [World.cell?_alloc_at _ _ _ _ rfl]; rfl

set_option maxHeartbeats 8000000 in
set_option maxRecDepth 100000 in
theorem bytes1_any (td rn ot rel ut ui ur vt vi vr : ByteArray) (a : Option Addr) (len cap : Nat) (k0 : Int) (ty rl : Nat → ByteArray) (wc : Nat → Bool) (w : World) (hr : Refs w a len ty rl wc) (hm : len ≤ maxLen) :
    Calls Try.prog 5 #[.string td, .string rn, .slice a len cap, .int .i64 k0, .agg #[.string ut, .string ui, .string ur], .string ot, .string rel, .agg #[.string vt, .string vi, .string vr]] w fun e w' =>
      IsBool e ∧ Below w.heap.size w w' := by
  have HR := hid hr
  clear hr
  unfold maxLen at hm
  have hbW : Below w.heap.size w ((w.alloc (.cells #[.string ut, .string ui, .string ur] 24)).alloc (.cells #[.string vt, .string vi, .string vr] 24)) := below_alloc2 _ _ _
  have HRW := hid (HR.out.later hbW)
  have HB := hid hbW
  clear hbW
  by_cases t1 : (1048576 : Int) < (td.size : Int)
  · go_enter Try.func5, Try.ntmps5
    go_wp2_with fail
    go_ret
    exact ⟨isBool rfl, HB.out⟩
  by_cases t2 : (1048576 : Int) < (rn.size : Int)
  · go_enter Try.func5, Try.ntmps5
    go_wp2_with fail
    go_ret
    exact ⟨isBool rfl, HB.out⟩
  by_cases t3 : (1048576 : Int) < (td.size : Int) + (rn.size : Int)
  · go_enter Try.func5, Try.ntmps5
    go_wp2_with fail
    go_ret
    exact ⟨isBool rfl, HB.out⟩
  by_cases t4 : (1048576 : Int) < (len : Int)
  · go_enter Try.func5, Try.ntmps5
    go_wp2_with fail
    go_ret
    exact ⟨isBool rfl, HB.out⟩
  by_cases t5 : (1048576 : Int) < (td.size : Int) + (rn.size : Int) + (len : Int)
  · go_enter Try.func5, Try.ntmps5
    go_wp2_with fail
    go_ret
    exact ⟨isBool rfl, HB.out⟩
  go_enter Try.func5, Try.ntmps5
  go_wp2_with fail
  have hbW := HB.out
  obtain ⟨x0, x1, x2, x3, x4, x5⟩ := two_boxes w (.string ut) (.string ui) (.string ur) (.string vt) (.string vi) (.string vr) 24 24
  clear HB
  generalize (w.alloc (.cells #[.string ut, .string ui, .string ur] 24)).alloc (.cells #[.string vt, .string vi, .string vr] 24) = W at hbW HRW x0 x1 x2 x3 x4 x5 ⊢
  go_loop [17, 18] (fun n i => ∃ (k : Nat) (r : Int), k ≤ len ∧ 0 ≤ r ∧ r ≤ 1048576 ∧ n = .int .i64 r ∧ i = .int .i64 k) (fun _ i => len - (intOf i).toNat)
  case atStart => exact ⟨0, _, by omega, by omega, by omega, rfl, rfl⟩
  case round =>
    obtain ⟨k, r, hk, hr0, hr1, rfl, rfl⟩ := hrel
    by_cases hlt : k < len
    · obtain ⟨b, off, rfl, hbl, g1, g2, g3⟩ := HRW.out k hlt
      have hk0 : (0 : Int) ≤ (k : Int) := by omega
      have hkl : (k : Int) < (len : Int) := by omega
      generalize ty k = s1 at g1
      generalize rl k = s2 at g2
      clear x0 x1 x2 x3 x4 x5
      go_wp2_with fail
      all_goals first | (go_ret; exact ⟨isBool rfl, hbW⟩) | exact ⟨⟨k + 1, r + s1.size + s2.size, by omega, by omega, by omega, rfl, by go_num⟩, by simp [intOf]; omega⟩
    · go_wp2_with fail
      all_goals (go_ret; exact ⟨isBool rfl, hbW⟩)

set_option maxHeartbeats 8000000 in
set_option maxRecDepth 100000 in
theorem bytes2_any (td rn ot rel vt vi vr : ByteArray) (a : Option Addr) (len cap : Nat) (k0 : Int) (ty rl : Nat → ByteArray) (wc : Nat → Bool) (w : World) (hr : Refs w a len ty rl wc) (hm : len ≤ maxLen) :
    Calls Try.prog 12 #[.string td, .string rn, .slice a len cap, .int .i64 k0, .string ot, .string rel, .agg #[.string vt, .string vi, .string vr]] w fun e w' =>
      IsBool e ∧ Below w.heap.size w w' := by
  have HR := hid hr
  clear hr
  unfold maxLen at hm
  have hbW : Below w.heap.size w (w.alloc (.cells #[.string vt, .string vi, .string vr] 24)) := (Below.refl _ _).alloc (Nat.le_refl _) _
  have HRW := hid (HR.out.later hbW)
  have HB := hid hbW
  clear hbW
  by_cases t1 : (1048576 : Int) < (td.size : Int)
  · go_enter Try.func12, Try.ntmps12
    go_wp2_with fail
    go_ret
    exact ⟨isBool rfl, HB.out⟩
  by_cases t2 : (1048576 : Int) < (rn.size : Int)
  · go_enter Try.func12, Try.ntmps12
    go_wp2_with fail
    go_ret
    exact ⟨isBool rfl, HB.out⟩
  by_cases t3 : (1048576 : Int) < (td.size : Int) + (rn.size : Int)
  · go_enter Try.func12, Try.ntmps12
    go_wp2_with fail
    go_ret
    exact ⟨isBool rfl, HB.out⟩
  by_cases t4 : (1048576 : Int) < (len : Int)
  · go_enter Try.func12, Try.ntmps12
    go_wp2_with fail
    go_ret
    exact ⟨isBool rfl, HB.out⟩
  by_cases t5 : (1048576 : Int) < (td.size : Int) + (rn.size : Int) + (len : Int)
  · go_enter Try.func12, Try.ntmps12
    go_wp2_with fail
    go_ret
    exact ⟨isBool rfl, HB.out⟩
  go_enter Try.func12, Try.ntmps12
  go_wp2_with fail
  have hbW := HB.out
  obtain ⟨x0, x1, x2⟩ := one_box w (.string vt) (.string vi) (.string vr) 24
  clear HB
  generalize w.alloc (.cells #[.string vt, .string vi, .string vr] 24) = W at hbW HRW x0 x1 x2 ⊢
  go_loop [15, 16] (fun n i => ∃ (k : Nat) (r : Int), k ≤ len ∧ 0 ≤ r ∧ r ≤ 1048576 ∧ n = .int .i64 r ∧ i = .int .i64 k) (fun _ i => len - (intOf i).toNat)
  case atStart => exact ⟨0, _, by omega, by omega, by omega, rfl, rfl⟩
  case round =>
    obtain ⟨k, r, hk, hr0, hr1, rfl, rfl⟩ := hrel
    by_cases hlt : k < len
    · obtain ⟨b, off, rfl, hbl, g1, g2, g3⟩ := HRW.out k hlt
      have hk0 : (0 : Int) ≤ (k : Int) := by omega
      have hkl : (k : Int) < (len : Int) := by omega
      generalize ty k = s1 at g1
      generalize rl k = s2 at g2
      clear x0 x1 x2
      go_wp2_with fail
      all_goals first | (go_ret; exact ⟨isBool rfl, hbW⟩) | exact ⟨⟨k + 1, r + s1.size + s2.size, by omega, by omega, by omega, rfl, by go_num⟩, by simp [intOf]; omega⟩
    · go_wp2_with fail
      all_goals (go_ret; exact ⟨isBool rfl, hbW⟩)
end Go.Proofs.Qxb6627563a
