import Derived.Test.Qxb6627525aChecked
import Derived.WalkKit
import Derived.ProofKit
import Derived.OpenShut
import Derived.WalkSpells
import Derived.Below
import Derived.BigQuiet
import Derived.Lib.Builder
import Derived.Deep.QuietTactic
namespace Go.Proofs.Qxb6627525a
open Go.ChangeShapes Go.WideShapes Go.ChangeAt Go.RowKit
set_option linter.unusedVariables false

theorem info5 : (Try.prog.info? 5).map (fun i => (i.zero, i.size, i.bytes)) = some (some (.int .u8 0), 1, 1) := by kernel_rfl

/-- the bytes of a text in memory -/
def Bytes (w : World) (b off len : Nat) (f : Nat → Int) : Prop := ∀ i, i < len → w.cell? ⟨b, off + i, none⟩ = some (.int .u8 (f i))

/-- nil stays nil -/
theorem clone_nil (cap : Nat) (w : World) : Calls Try.prog 5 #[.slice none 0 cap] w fun e w' => e = .returned (.slice none 0 0) ∧ w' = w := by
  have hnn := fun wx => Lib.run_eql_slice_nil (P := Try.prog) wx 23 5 none 0 cap 0 0 Try.underlying23
  go_enter Try.func5, Try.ntmps5
  go_wp2
  go_ret
  exact ⟨rfl, rfl⟩

/-- the row that the clone fills: its first k cells are the bytes -/
def Filled (w : World) (g len k : Nat) (f : Nat → Int) : Prop :=
  g < w.heap.size ∧ (∀ j, j < len → (w.cell? ⟨g, j, none⟩).isSome = true ∧ w.frozen? ⟨g, j, none⟩ = false) ∧ ∀ j, j < k → w.cell? ⟨g, j, none⟩ = some (.int .u8 (f j))

theorem Filled.start {w w1 : World} {g len : Nat} {f : Nat → Int} {xs : List Value} (h : w1.ownsRow w.heap.size 5 1 (.slice (some ⟨g, 0, none⟩) len len) len xs) : Filled w1 g len 0 f := by
  refine ⟨?_, fun j hj => ⟨?_, h.frozenAt j⟩, fun j hj => by omega⟩
  · obtain ⟨_, h | ⟨g', cap, cur, hv, _, hh, _, _, hs, _⟩⟩ := h
    · simp at h
    · simp only [Value.slice.injEq, Option.some.injEq, Addr.mk.injEq] at hv
      obtain ⟨⟨rfl, _, _⟩, _, rfl⟩ := hv
      exact (Array.getElem?_eq_some_iff.1 hh).1
  rw [h.cellAt j (by omega)]
  have : xs.length = len * 1 := h.1
  rw [List.getElem?_eq_getElem (by omega)]; rfl

theorem Filled.step {w : World} {g len k : Nat} {f : Nat → Int} (h : Filled w g len k f) (hk : k < len) : Filled (w.setCell ⟨g, k, none⟩ (.int .u8 (f k))) g len (k + 1) f := by
  refine ⟨by simpa [World.setCell] using h.1, fun j hj => ⟨?_, by rw [World.frozen?_setCell]; exact (h.2.1 j hj).2⟩, fun j hj => ?_⟩
  · by_cases e : j = k
    · subst e
      rw [World.cell?_setCell_same' _ _ _ (h.2.1 _ hj).1]; rfl
    · rw [World.cell?_setCell_other _ _ _ _ (by intro hh; injection hh; omega)]; exact (h.2.1 j hj).1
  · by_cases e : j = k
    · subst e
      rw [World.cell?_setCell_same' _ _ _ (h.2.1 _ hk).1]
    · rw [World.cell?_setCell_other _ _ _ _ (by intro hh; injection hh; omega)]; exact h.2.2 j (by omega)

set_option maxHeartbeats 1000000 in
theorem clone_some (x : Addr) (len cap : Nat) (f : Nat → Int) (w : World) (hl : len ≤ 1048576)
    (hsrc : ∀ i, i < len → x.block < w.heap.size ∧ x.spot = none ∧ w.cell? ⟨x.block, x.off + i, none⟩ = some (.int .u8 (f i))) :
    Calls Try.prog 5 #[.slice (some x) len cap] w fun e w' => e = .returned (.slice (some ⟨w.heap.size, 0, none⟩) len len) ∧ Below w.heap.size w w' ∧ w.heap.size < w'.heap.size ∧ Bytes w' w.heap.size 0 len f := by
  have hnn := fun wx => Lib.run_eql_slice_nil (P := Try.prog) wx 23 5 (some x) len cap 0 0 Try.underlying23
  have HS : Hid (∀ i, i < len → x.block < w.heap.size ∧ x.spot = none ∧ w.cell? ⟨x.block, x.off + i, none⟩ = some (.int .u8 (f i))) := hsrc
  clear hsrc
  obtain ⟨i0, hi, hz0, hz1, hz2⟩ := info_parts info5
  go_enter Try.func5, Try.ntmps5
  go_wp2_with (at_make; refine wpList_make_full _ rfl _ _ 23 rfl w.heap.size 5 i0 (.int .u8 0) 1 Try.underlying23 hi hz0 hz1 .i64 .i64 _ _ len rfl rfl rfl rfl (by rw [hz2]; omega) (by unfold maxLen; omega) (Nat.le_refl _) ?_; intro w1 hown1 hgrow1)
  have hb1 : Below w.heap.size w w1 := (Below.refl _ _).grown hgrow1 (Nat.le_refl _) (by intro k hk; cases hk)
  have hfl : Filled w1 w.heap.size len 0 f := Filled.start hown1
  clear hown1 hgrow1 hi hz0 hz1 hz2 hnn
  go_loopw [4] (fun i wr => ∃ k : Nat, k ≤ len ∧ i = .int .i64 k ∧ Below w.heap.size w wr ∧ Filled wr w.heap.size len k f) (fun i _ => len - (intOf i).toNat)
  case atStart => exact ⟨0, by omega, rfl, hb1, hfl⟩
  case round =>
    obtain ⟨k, hk, rfl, hb, hF⟩ := hrel
    by_cases hlt : k < len
    · obtain ⟨hs1, hs2, hs3⟩ := HS.out k hlt
      obtain ⟨b, off, spot⟩ := x
      simp only at hs1 hs2 hs3
      subst hs2
      have hc : wr.cell? ⟨b, off + k, none⟩ = some (.int .u8 (f k)) := by rw [hb.cell (by exact hs1)]; exact hs3
      have hd := hF.2.1 k hlt
      obtain ⟨u, hu⟩ := Option.isSome_iff_exists.1 hd.1
      have hfz := hd.2
      clear hs3 hs1 hd
      go_wp2
      exact ⟨⟨k + 1, by omega, by go_num, hb.setCell (Nat.le_refl _) _, hF.step hlt⟩, by simp [intOf]; omega⟩
    · have e : k = len := by omega
      subst e
      go_wp2
      go_ret
      exact ⟨rfl, hb, hF.1, fun i hi => by rw [Nat.zero_add]; exact hF.2.2 i hi⟩

theorem below_alloc3 (w : World) (a b c : Obj) : Below w.heap.size w (((w.alloc a).alloc b).alloc c) :=
  (((Below.refl _ w).alloc (Nat.le_refl _) a).alloc (by simp) b).alloc (by simp; omega) c

set_option maxHeartbeats 1000000 in
/-- the universal constructed 16: a List over the contents -/
theorem sequence_yes (ar ac : Option Addr) (lr cr lc cc : Nat) (what : ByteArray) (w : World) :
    Calls Try.prog 6 #[.agg #[.int .u8 0, .bool true, .int .u32 16, .slice ar lr cr, .slice ac lc cc], .string what] w fun e w' =>
      ∃ L, e = .returned (.tuple #[.pointer (some ⟨L, 0, none⟩), .nilIface]) ∧ w.heap.size ≤ L ∧ L < w'.heap.size ∧ w'.cell? ⟨L, 0, none⟩ = some (.slice ac lc cc) ∧ Below w.heap.size w w' := by
  go_enter Try.func6, Try.ntmps6
  go_wp2
  go_ret2
  refine ⟨_, rfl, ?_, ?_, ?_, ?_⟩
  · omega
  · simp
  · rw [World.cell?_alloc_at _ _ _ _ (by simp)]; rfl
  · exact (below_alloc3 _ _ _ _).alloc (by simp; omega) _

set_option maxHeartbeats 2000000 in
theorem sequence_no (c tag : Int) (k : Bool) (ar ac : Option Addr) (lr cr lc cc : Nat) (what : ByteArray) (w : World) (hw : what.size ≤ 4096) (h : ¬ (c = 0 ∧ k = true ∧ tag = 16)) :
    Calls Try.prog 6 #[.agg #[.int .u8 c, .bool k, .int .u32 tag, .slice ar lr cr, .slice ac lc cc], .string what] w fun e w' =>
      ∃ L, e = .returned (.tuple #[.pointer none, .iface 42 (.pointer (some ⟨L, 0, none⟩))]) ∧ Below w.heap.size w w' := by
  by_cases h1 : c = 0
  · subst h1
    by_cases h2 : tag = 16
    · subst h2
      have h3 : k = false := by simpa using h
      subst h3
      clear h
      go_enter Try.func6, Try.ntmps6
      go_wp2
      go_ret2
      exact ⟨_, rfl, (below_alloc3 _ _ _ _).alloc (by simp; omega) _⟩
    · have h2' : (tag == 16) = false := by simp [h2]
      clear h h2
      go_enter Try.func6, Try.ntmps6
      go_wp2
      go_ret2
      exact ⟨_, rfl, (below_alloc3 _ _ _ _).alloc (by simp; omega) _⟩
  · have h1' : (c == 0) = false := by simp [h1]
    clear h h1
    go_enter Try.func6, Try.ntmps6
    go_wp2
    go_ret2
    exact ⟨_, rfl, (below_alloc3 _ _ _ _).alloc (by simp; omega) _⟩

theorem drewN_below (w : World) (n : Nat) : Below w.heap.size w (w.drewN n) := ⟨rfl, rfl, rfl, Nat.le_refl _, fun _ _ => rfl⟩

set_option maxHeartbeats 1000000 in
theorem over_nil (L : Nat) (w : World) (hL : w.cell? ⟨L, 0, none⟩ = some (.slice none 0 0)) :
    Calls Try.prog 7 #[.pointer (some ⟨L, 0, none⟩), .slice none 0 0, .slice none 0 0] w fun e w' => e = .returned (.bool true) ∧ Below w.heap.size w w' := by
  have hnn := fun wx => Lib.run_eql_slice_nil (P := Try.prog) wx 23 5 none 0 0 0 0 Try.underlying23
  have hd : decide ((0 : Int) < 0) = false := by decide
  go_enter Try.func7, Try.ntmps7
  go_wp2
  refine wp_loop_rounds 1 ?_
  rw [rounds_succ]
  go_wp2
  go_quiet (fail)
  go_wp2
  go_ret
  exact ⟨rfl, drewN_below _ _⟩

theorem info5b : ∃ j, Try.prog.info? 5 = some j := by
  cases h : Try.prog.info? 5 with
  | none => have e : (Try.prog.info? 5).isSome = true := by kernel_rfl
            rw [h] at e; cases e
  | some j => exact ⟨j, rfl⟩

set_option maxHeartbeats 1000000 in
theorem over_some (L g g' len : Nat) (f : Nat → Int) (w : World) (hl : len ≤ 1048576) (hL : w.cell? ⟨L, 0, none⟩ = some (.slice (some ⟨g, 0, none⟩) len len))
    (hb : Bytes w g 0 len f) (hb' : Bytes w g' 0 len f) :
    Calls Try.prog 7 #[.pointer (some ⟨L, 0, none⟩), .slice (some ⟨g, 0, none⟩) len len, .slice (some ⟨g', 0, none⟩) len len] w fun e w' => e = .returned (.bool true) ∧ Below w.heap.size w w' := by
  have hnn := fun wx => Lib.run_eql_slice_nil (P := Try.prog) wx 23 5 (some ⟨g, 0, none⟩) len len 0 0 Try.underlying23
  obtain ⟨j5, hj5⟩ := info5b
  have hpp := fun wx => Lib.run_neq_ptr_same (P := Try.prog) (w := wx) (tp := 40) (te := 5) (j := j5) ⟨g, 0, none⟩ Try.underlying40 hj5
  clear hj5
  go_enter Try.func7, Try.ntmps7
  go_wp2
  go_loopw [8] (fun i wr => ∃ k n : Nat, k ≤ len ∧ i = .int .i64 k ∧ wr = w.drewN n) (fun i _ => len - (intOf i).toNat)
  case atStart => exact ⟨0, 0, by omega, rfl, rfl⟩
  case round =>
    obtain ⟨k, n, hk, rfl, rfl⟩ := hrel
    by_cases hlt : k < len
    · have c1 := hb k hlt
      have c2 := hb' k hlt
      rw [Nat.zero_add] at c1 c2
      have i1 : (0 : Int) ≤ (k : Int) := by omega
      have i2 : (k : Int) < (len : Int) := by omega
      go_wp2
      go_quiet (fail)
      go_wp2
      exact ⟨⟨k + 1, _, by omega, by go_num, rfl⟩, by simp [intOf]; omega⟩
    · have e : k = len := by omega
      subst e
      by_cases h0 : k = 0
      · subst h0
        have hd : decide ((0 : Int) < ((0 : Nat) : Int)) = false := by decide
        go_wp2
        go_quiet (fail)
        go_wp2
        go_ret
        exact ⟨rfl, (drewN_below _ _).trans (drewN_below (w.drewN n) _)⟩
      · have hp : (0 : Int) < (k : Int) := by omega
        have hpn : 0 < k := by omega
        go_wp2
        go_quiet (fail)
        go_wp2
        go_ret
        exact ⟨rfl, (drewN_below _ _).trans (drewN_below (w.drewN n) _)⟩

/-- what a clone reads -/
def Src (w : World) (a : Option Addr) (len : Nat) (f : Nat → Int) : Prop :=
  (a = none ∧ len = 0) ∨ ∃ x : Addr, a = some x ∧ ∀ i, i < len → x.block < w.heap.size ∧ x.spot = none ∧ w.cell? ⟨x.block, x.off + i, none⟩ = some (.int .u8 (f i))

/-- what a clone leaves: nil, or a row of the call's own -/
def Cl (w : World) (a : Option Addr) (len : Nat) (f : Nat → Int) : Prop :=
  (a = none ∧ len = 0) ∨ ∃ g, a = some ⟨g, 0, none⟩ ∧ g < w.heap.size ∧ Bytes w g 0 len f

theorem Cl.src {w : World} {a : Option Addr} {len : Nat} {f : Nat → Int} (h : Cl w a len f) : Src w a len f := by
  rcases h with h | ⟨g, rfl, hg, hb⟩
  · exact .inl h
  · exact .inr ⟨_, rfl, fun i hi => ⟨hg, rfl, hb i hi⟩⟩

theorem Cl.later {w w' : World} {a : Option Addr} {len : Nat} {f : Nat → Int} (h : Cl w a len f) (hb : Below w.heap.size w w') : Cl w' a len f := by
  rcases h with h | ⟨g, rfl, hg, hy⟩
  · exact .inl h
  · exact .inr ⟨g, rfl, Nat.lt_of_lt_of_le hg hb.size, fun i hi => by rw [hb.cell (by exact hg)]; exact hy i hi⟩

theorem Src.later {w w' : World} {a : Option Addr} {len : Nat} {f : Nat → Int} (h : Src w a len f) (hb : Below w.heap.size w w') : Src w' a len f := by
  rcases h with h | ⟨x, rfl, hy⟩
  · exact .inl h
  · exact .inr ⟨x, rfl, fun i hi => ⟨Nat.lt_of_lt_of_le (hy i hi).1 hb.size, (hy i hi).2.1, by rw [hb.cell (by exact (hy i hi).1)]; exact (hy i hi).2.2⟩⟩

/-- a clone: the same length, nil where the original is nil, the same bytes, in memory of its own -/
theorem clone_any (a : Option Addr) (len cap : Nat) (f : Nat → Int) (w : World) (hl : len ≤ 1048576) (hs : Src w a len f) :
    Calls Try.prog 5 #[.slice a len cap] w fun e w' => ∃ a', e = .returned (.slice a' len len) ∧ (a' = none ↔ a = none) ∧ Below w.heap.size w w' ∧ Cl w' a' len f := by
  rcases hs with ⟨rfl, rfl⟩ | ⟨x, rfl, hx⟩
  · exact (clone_nil cap w).mono fun e w' ⟨he, hw⟩ => ⟨none, he, Iff.rfl, by rw [hw]; exact Below.refl _ _, .inl ⟨rfl, rfl⟩⟩
  · exact (clone_some x len cap f w hl hx).mono fun e w' ⟨he, hb, hg, hy⟩ => ⟨_, he, by simp, hb, .inr ⟨_, rfl, hg, hy⟩⟩

/-- seqListOverB1 says yes of a List over the clone -/
theorem over_any (L : Nat) (a a' : Option Addr) (len : Nat) (f : Nat → Int) (w : World) (hl : len ≤ 1048576) (hL : w.cell? ⟨L, 0, none⟩ = some (.slice a len len))
    (hc : Cl w a len f) (hc' : Cl w a' len f) (hn : a' = none ↔ a = none) :
    Calls Try.prog 7 #[.pointer (some ⟨L, 0, none⟩), .slice a len len, .slice a' len len] w fun e w' => e = .returned (.bool true) ∧ Below w.heap.size w w' := by
  rcases hc with ⟨rfl, rfl⟩ | ⟨g, rfl, hg, hb⟩
  · obtain rfl := hn.2 rfl
    exact over_nil L w hL
  · rcases hc' with ⟨rfl, rfl⟩ | ⟨g', rfl, hg', hb'⟩
    · exact absurd (hn.1 rfl) (by simp)
    · exact over_some L g g' len f w hl hL hb hb'

theorem bytes_yes (tag : Int) (a1 a2 : Option Addr) (l1 c1 l2 c2 : Nat) (what : ByteArray) (w : World) (h1 : l1 ≤ 262144) (h2 : l2 ≤ 262144) (h3 : what.size ≤ 4096) :
    Calls Try.prog 4 #[.int .u32 tag, .slice a1 l1 c1, .slice a2 l2 c2, .string what] w fun e w' => e = .returned (.bool true) ∧ w' = w := by
  go_enter Try.func4, Try.ntmps4
  go_wp2
  go_ret
  exact ⟨rfl, rfl⟩

set_option maxHeartbeats 1000000 in
theorem bytes_any (tag : Int) (a1 a2 : Option Addr) (l1 c1 l2 c2 : Nat) (what : ByteArray) (w : World) (h1 : l1 ≤ maxLen) (h2 : l2 ≤ maxLen) (h3 : what.size ≤ maxLen) :
    Calls Try.prog 4 #[.int .u32 tag, .slice a1 l1 c1, .slice a2 l2 c2, .string what] w fun e w' => (∃ b, e = .returned (.bool b)) ∧ w' = w := by
  unfold maxLen at h1 h2 h3
  go_enter Try.func4, Try.ntmps4
  go_wp2
  all_goals
    go_ret
    exact ⟨⟨_, rfl⟩, rfl⟩

end Go.Proofs.Qxb6627525a
