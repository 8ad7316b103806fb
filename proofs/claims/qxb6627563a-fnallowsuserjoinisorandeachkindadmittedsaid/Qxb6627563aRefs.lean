import Derived.Test.Qxb6627563aChecked
import Derived.Test.Qxb6627563aMaps
import Derived.Test.Qxb6627563aPlain
import Derived.WalkKit
import Derived.ProofKit
import Derived.OpenShut
import Derived.WalkSpells
import Derived.Below
namespace Go.Proofs.Qxb6627563a
open Go.ChangeShapes Go.WideShapes Go.ChangeAt Go.RowKit
set_option linter.unusedVariables false

theorem below_alloc2 (w : World) (a b : Obj) : Below w.heap.size w ((w.alloc a).alloc b) :=
  ((Below.refl _ w).alloc (Nat.le_refl _) a).alloc (by simp) b
theorem below_alloc3 (w : World) (a b c : Obj) : Below w.heap.size w (((w.alloc a).alloc b).alloc c) :=
  (below_alloc2 w a b).alloc (by simp; omega) c

set_option maxHeartbeats 1000000 in
theorem matches_any (t r c ut ui ur : ByteArray) (p : Option Addr) (w : World) :
    Calls Try.prog 16 #[.agg #[.string t, .string r, .pointer p, .string c], .agg #[.string ut, .string ui, .string ur]] w fun e w' =>
      e = .returned (.bool (Plain.mt t r p.isSome ut ui ur)) ∧ Below w.heap.size w w' := by
  cases h1 : (t.toList == ut.toList) with
  | false =>
    have HF : Hid (Plain.mt t r p.isSome ut ui ur = false) := by show Plain.mt t r p.isSome ut ui ur = false; simp [Plain.mt, h1]
    go_enter Try.func16, Try.ntmps16
    go_wp2
    go_ret
    exact ⟨by rw [HF.out]; rfl, below_alloc2 _ _ _⟩
  | true =>
    cases h2 : (r.toList == ur.toList) with
    | false =>
      have HF : Hid (Plain.mt t r p.isSome ut ui ur = false) := by show Plain.mt t r p.isSome ut ui ur = false; simp [Plain.mt, h2]
      go_enter Try.func16, Try.ntmps16
      go_wp2
      go_ret
      exact ⟨by rw [HF.out]; rfl, below_alloc2 _ _ _⟩
    | true =>
      have HF : Hid (Plain.mt t r p.isSome ut ui ur = (p.isSome == (ui.toList == [42]))) := by show Plain.mt t r p.isSome ut ui ur = (p.isSome == (ui.toList == [42])); simp [Plain.mt, h1, h2]
      go_enter Try.func16, Try.ntmps16
      go_wp2
      go_ret
      exact ⟨by rw [HF.out]; rfl, below_alloc2 _ _ _⟩

set_option maxHeartbeats 1000000 in
theorem user_any (t i r : ByteArray) (w : World) :
    Calls Try.prog 11 #[.agg #[.string t, .string i, .string r]] w fun e w' => e = .returned (.agg #[.string t, .string i, .string r]) ∧ Below w.heap.size w w' := by
  go_enter Try.func11, Try.ntmps11
  go_wp2
  exact bodyPost_ret (v := .agg #[.string t, .string i, .string r]) (by simp [results, Try.results11, go_sem]) rfl ⟨rfl, below_alloc2 _ _ _⟩

set_option maxHeartbeats 1000000 in
theorem ref_any (t r : ByteArray) (b : Bool) (w : World) :
    Calls Try.prog 8 #[.agg #[.string t, .string r, .bool b]] w fun e w' => ∃ p : Option Addr, e = .returned (.agg #[.string t, .string r, .pointer p, .string ⟨#[]⟩]) ∧ p.isSome = b ∧ Below w.heap.size w w' := by
  cases b
  · go_enter Try.func8, Try.ntmps8
    go_wp2
    exact bodyPost_ret (v := .agg #[.string t, .string r, .pointer none, .string ⟨#[]⟩]) (by simp [results, Try.results8, go_sem]) rfl ⟨none, rfl, rfl, below_alloc3 _ _ _ _⟩
  · go_enter Try.func8, Try.ntmps8
    go_wp2
    exact bodyPost_ret (v := .agg #[.string t, .string r, .pointer (some ⟨w.heap.size + 1 + 1 + 1, 0, none⟩), .string ⟨#[]⟩]) (by simp [results, Try.results8, go_sem]) rfl ⟨_, rfl, rfl, (below_alloc3 _ _ _ _).alloc (by simp; omega) _⟩

/-- the kinds that came in, in memory -/
def Refs (w : World) (a : Option Addr) (len : Nat) (ty rl : Nat → ByteArray) (wc : Nat → Bool) : Prop :=
  ∀ i, i < len → ∃ b off, a = some ⟨b, off, none⟩ ∧ b < w.heap.size ∧ w.cell? ⟨b, off + i * 3, none⟩ = some (.string (ty i)) ∧ w.cell? ⟨b, off + i * 3 + 1, none⟩ = some (.string (rl i)) ∧ w.cell? ⟨b, off + i * 3 + 2, none⟩ = some (.bool (wc i))

theorem Refs.later {w w' : World} {a : Option Addr} {len : Nat} {ty rl : Nat → ByteArray} {wc : Nat → Bool} (h : Refs w a len ty rl wc) (hb : Below w.heap.size w w') : Refs w' a len ty rl wc := by
  intro i hi
  obtain ⟨b, off, ha, hlt, h1, h2, h3⟩ := h i hi
  exact ⟨b, off, ha, Nat.lt_of_lt_of_le hlt hb.size, by rw [hb.cell (by exact hlt)]; exact h1, by rw [hb.cell (by exact hlt)]; exact h2, by rw [hb.cell (by exact hlt)]; exact h3⟩

/-- a kind as the package holds it: its four cells -/
def four (x : ByteArray × ByteArray × Option Addr) : List Value := [.string x.1, .string x.2.1, .pointer x.2.2, .string ⟨#[]⟩]
def cellsOf (l : List (ByteArray × ByteArray × Option Addr)) : List Value := l.flatMap four
def plainOf (l : List (ByteArray × ByteArray × Option Addr)) : List (ByteArray × ByteArray × Bool) := l.map fun x => (x.1, x.2.1, x.2.2.isSome)
theorem cellsOf_snoc (l : List (ByteArray × ByteArray × Option Addr)) (x : ByteArray × ByteArray × Option Addr) : cellsOf (l ++ [x]) = cellsOf l ++ four x := by simp [cellsOf, List.flatMap_append]
theorem plainOf_snoc (l : List (ByteArray × ByteArray × Option Addr)) (x : ByteArray × ByteArray × Option Addr) : plainOf (l ++ [x]) = plainOf l ++ [(x.1, x.2.1, x.2.2.isSome)] := by simp [plainOf]
theorem cellsOf_length (l : List (ByteArray × ByteArray × Option Addr)) : (cellsOf l).length = l.length * 4 := by
  induction l with
  | nil => rfl
  | cons x l ih => simp only [cellsOf, List.flatMap_cons, List.length_append, List.length_cons] at *; rw [ih]; simp [four]; omega

theorem info31 : (Try.prog.info? 31).map (fun i => (i.zero, i.size, i.bytes)) = some (some (.agg #[.string ⟨#[]⟩, .string ⟨#[]⟩, .pointer none, .string ⟨#[]⟩]), 4, 56) := by kernel_rfl

/-- a slice of kinds of the call's own -/
def Row (w : World) (base : Nat) (v : Value) (l : List (ByteArray × ByteArray × Option Addr)) : Prop := w.ownsRow base 31 4 v l.length (cellsOf l)

theorem Row.later {w w' : World} {base : Nat} {v : Value} {l : List (ByteArray × ByteArray × Option Addr)} (h : Row w base v l) (hb : Below w.heap.size w w') : Row w' base v l := by
  obtain ⟨h1, h | ⟨g, cap, cur, hv, hg, hh, h2⟩⟩ := h
  · exact ⟨h1, .inl h⟩
  · exact ⟨h1, .inr ⟨g, cap, cur, hv, hg, by rw [hb.block g (Array.getElem?_eq_some_iff.1 hh).1]; exact hh, h2⟩⟩

/-- the row in which a value lies is among the call's own blocks -/
theorem Row.own {w : World} {base : Nat} {v : Value} {l : List (ByteArray × ByteArray × Option Addr)} (h : Row w base v l) : ∀ k, v.ownBlock = some k → base ≤ k := by
  intro k hk
  obtain ⟨_, ⟨rfl, _⟩ | ⟨g, cap, cur, rfl, hg, _⟩⟩ := h
  · cases hk
  · simp only [Value.ownBlock, Option.some.injEq] at hk; omega

/-- one kind more -/
theorem Row.snoc {w : World} {base : Nat} {v : Value} {l : List (ByteArray × ByteArray × Option Addr)} {x : ByteArray × ByteArray × Option Addr} (h : w.ownsRow base 31 4 v (l.length + 1) (cellsOf l ++ four x)) : Row w base v (l ++ [x]) := by
  unfold Row
  rw [cellsOf_snoc]
  simpa using h

theorem new_cells (w : World) (x : ByteArray × ByteArray × Option Addr) : ∀ j u, (four x)[j]? = some u → (w.alloc (.cells #[.string x.1, .string x.2.1, .pointer x.2.2, .string ⟨#[]⟩] 31)).cell? ((⟨w.heap.size, 0, none⟩ : Addr).add j) = some u := by
  intro j u hj
  rw [Addr.add_lit, World.cell?_alloc_at _ _ _ _ rfl, Nat.zero_add]
  rw [← hj]
  simp [four]

theorem four_one (x : ByteArray × ByteArray × Option Addr) : ∀ u ∈ four x, u.oneCell' = true := by
  intro u hu
  simp only [four, List.mem_cons, List.not_mem_nil, or_false] at hu
  rcases hu with rfl | rfl | rfl | rfl <;> rfl

set_option maxHeartbeats 2000000 in
theorem refs_any (a : Option Addr) (len cap lo hi : Nat) (ty rl : Nat → ByteArray) (wc : Nat → Bool) (w : World) (hr : Refs w a len ty rl wc) (hl : len ≤ 65536) (h1 : lo ≤ hi) (h2 : hi ≤ len) :
    Calls Try.prog 7 #[.slice a len cap, .int .i64 lo, .int .i64 hi] w fun e w' =>
      ∃ v l, e = .returned v ∧ Row w' w.heap.size v l ∧ plainOf l = Plain.kinds (fun i => (ty i, rl i, wc i)) lo (hi - lo) ∧ Below w.heap.size w w' := by
  obtain ⟨i0, hi0, hz0, hz1, hz2⟩ := info_parts info31
  go_enter Try.func7, Try.ntmps7
  go_wp2_with (at_make; refine wpList_make_own _ rfl _ _ 27 rfl w.heap.size 31 i0 _ 4 Try.underlying27 hi0 hz0 hz1 .i64 .i64 _ (hi - lo) rfl rfl (by omega) (by rw [hz2]; omega) (by unfold maxLen; omega) (Nat.le_refl _) ?_; intro w1 hown1 hgrow1)
  have hb1 : Below w.heap.size w w1 := (Below.refl _ _).grown hgrow1 (Nat.le_refl _) (by intro k hk; cases hk)
  clear hgrow1
  have hrow1 : Row w1 w.heap.size (.slice (some ⟨w.heap.size, 0, none⟩) 0 (hi - lo)) [] := hown1
  clear hown1
  go_loopw [7, 8] (fun v i wr => ∃ k l, lo ≤ k ∧ k ≤ hi ∧ i = .int .i64 (k : Nat) ∧ Row wr w.heap.size v l ∧ Hid (plainOf l = Plain.kinds (fun i => (ty i, rl i, wc i)) lo (k - lo)) ∧ Below w.heap.size w wr) (fun _ i _ => hi - (intOf i).toNat)
  case atStart => exact ⟨lo, [], Nat.le_refl _, h1, rfl, hrow1, by rw [Nat.sub_self]; rfl, hb1⟩
  case round =>
    obtain ⟨k, l, hk1, hk2, rfl, hrow, hpl, hb⟩ := hrel
    by_cases hlt2 : k < hi
    · obtain ⟨b, off, rfl, hbl, g1, g2, g3⟩ := hr.later hb k (by omega)
      have hk0 : (0 : Int) ≤ (k : Int) := by omega
      have hkl : (k : Int) < (len : Int) := by omega
      have hll : l.length = k - lo := by
        have := congrArg List.length hpl.out
        rw [Plain.kinds_length] at this
        simpa [plainOf] using this
      have HL : Hid (l.length = k - lo) := hll
      clear hll
      go_wp2_with fail
      refine (ref_any (ty k) (rl k) (wc k) wr).mono ?_
      rintro e w2 ⟨p, rfl, hp, hb2⟩
      have hrow2 := hrow.later hb2
      have hb3 : Below w.heap.size w w2 := hb.trans (hb2.mono hb.size)
      have HP : Hid (p.isSome = wc k) := hp
      clear hrow hb2 hb hp g1 g2 g3
      go_wp2_with (at_builtin; refine wpList_append_own _ rfl _ _ 27 rfl w.heap.size 31 i0 _ 4 56 Try.underlying27 hi0 hz0 hz1 hz2 rfl (by decide) _ _ _ rfl (hrow2.alloc _) ⟨w2.heap.size, 0, none⟩ 1 1 (four (ty k, rl k, p)) rfl rfl (new_cells w2 (ty k, rl k, p)) (four_one _) (by rw [HL.out]; unfold maxLen; omega) (by rw [HL.out]; omega) (by have := hb3.size; simp; omega) ?_; intro v' w3 hown3 hgrow3 _)
      have hb4 : Below w.heap.size w w3 := (hb3.alloc hb3.size _).grown hgrow3 (by have := hb3.size; simp; omega) (fun k hk => hrow2.own k hk)
      have hrow3 : Row w3 w.heap.size v' (l ++ [(ty k, rl k, p)]) := Row.snoc hown3
      have hpl3 : plainOf (l ++ [(ty k, rl k, p)]) = Plain.kinds (fun i => (ty i, rl i, wc i)) lo (k + 1 - lo) := by
        rw [plainOf_snoc, hpl.out, show k + 1 - lo = (k - lo) + 1 from by omega, Plain.kinds_succ, show lo + (k - lo) = k from by omega]
        simp only [HP.out]
      exact ⟨⟨k + 1, l ++ [(ty k, rl k, p)], by omega, by omega, by go_num, hrow3, hpl3, hb4⟩, by simp [intOf]; omega⟩
    · have e : k = hi := by omega
      subst e
      go_wp2
      go_ret
      exact ⟨_, l, rfl, hrow, hpl.out, hb⟩
end Go.Proofs.Qxb6627563a
