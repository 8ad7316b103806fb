import Derived.Test.Qxb6627563aBytes
import Derived.Lib.SmallJoins
import Derived.Deep.Slices
import Derived.Deep.Strs
import Derived.ShutString
import Derived.ChangeOld
namespace Go.Proofs.Qxb6627563a
open Go.ChangeShapes Go.WideShapes Go.ChangeAt Go.RowKit Go.Joins Go.Deep
set_option linter.unusedVariables false

theorem own : ownKnob Try.prog.godebug = none := by kernel_rfl
theorem laidOut : laidOutB Try.prog = true := by kernel_rfl
theorem cells34 : Try.prog.cellsOf 34 = 3 := by kernel_rfl
theorem cells24 : Try.prog.cellsOf 24 = 3 := by kernel_rfl
theorem cells9 : Try.prog.cellsOf 9 = 1 := by kernel_rfl
theorem cells4 : Try.prog.cellsOf 4 = 1 := by kernel_rfl

/-- a slice of kinds that came in -/
theorem open_refs {H : Type} {enc : TypeId × Value → H} {W : World} {base : Nat} {sp : Nat → Bool} {held : Bool} {a : Option Addr} {len cap : Nat} {d : DataW H} {p : List MemPlace}
    (h : DataW.Trod enc Try.prog W base sp held 22 (.slice a len cap) d p) : len ≤ maxLen ∧ ∃ ty rl wc, Refs W a len ty rl wc := by
  obtain ⟨fuel, hf⟩ := h
  rcases open_slice Try.underlying22 hf with ⟨hcs, _⟩ | ⟨x, l, c, m, n, D, Pl, hcs, hb, hl, hm, hmm, _, hx⟩
  · simp [Value.cells] at hcs
    obtain ⟨rfl, rfl, rfl⟩ := hcs
    exact ⟨Nat.zero_le _, fun _ => ByteArray.empty, fun _ => ByteArray.empty, fun _ => false, fun i hi => by omega⟩
  · simp [Value.cells] at hcs
    obtain ⟨rfl, rfl, rfl⟩ := hcs
    refine ⟨by omega, ?_⟩
    have hlm : len ≤ m := by rw [hmm]; split <;> omega
    have hsp : 0 < len → x.spot = none := by
      intro h0
      obtain ⟨cs, hcells, _⟩ := hx 0 (by omega)
      obtain ⟨_, hlen, hce⟩ := World.cells?_some hcells
      rw [cells34] at hlen hce
      have g := hce 0 (by omega)
      rw [Addr.add_add] at g
      match cs, hlen with
      | c0 :: cs, _ => exact World.cell?_spot (v := c0) (by simpa [Addr.add] using g)
    have key : ∀ i, i < len → ∃ z : ByteArray × ByteArray × Bool, ∃ b off, (some x : Option Addr) = some ⟨b, off, none⟩ ∧ b < W.heap.size ∧ W.cell? ⟨b, off + i * 3, none⟩ = some (.string z.1) ∧ W.cell? ⟨b, off + i * 3 + 1, none⟩ = some (.string z.2.1) ∧ W.cell? ⟨b, off + i * 3 + 2, none⟩ = some (.bool z.2.2) := by
      intro i hi
      obtain ⟨cs, hcells, ht⟩ := hx i (by omega)
      obtain ⟨_, hlen, hce⟩ := World.cells?_some hcells
      rw [cells34] at hlen hce
      obtain ⟨y0, y1, y2, k, _, _, t0, t1, t2⟩ := trod_struct3 Try.underlying34 ht
      match cs, hlen with
      | [c0, c1, c2], _ =>
        simp only [cells9, cells4] at t0 t1 t2
        obtain ⟨s0, e0, _⟩ := DataW.trod_string Try.underlying9 t0
        obtain ⟨s1, e1, _⟩ := DataW.trod_string Try.underlying9 t1
        obtain ⟨b2, e2, _⟩ := DataW.trod_bool Try.underlying4 t2
        simp at e0 e1 e2
        subst e0 e1 e2
        have g0 := hce 0 (by omega)
        have g1 := hce 1 (by omega)
        have g2 := hce 2 (by omega)
        obtain ⟨xb, xo, xs⟩ := x
        obtain rfl : xs = none := hsp (by omega)
        rw [Addr.add_add, Addr.add_lit] at g0 g1 g2
        exact ⟨(s0, s1, b2), xb, xo, rfl, World.block_lt_of_cell? W ⟨xb, xo + (i * 3 + 0), none⟩ g0, g0, g1, g2⟩
    obtain ⟨f, hf'⟩ := choose_lt key
    exact ⟨fun i => (f i).1, fun i => (f i).2.1, fun i => (f i).2.2, hf'⟩

/-- a user by value that came in -/
theorem open_user {H : Type} {enc : TypeId × Value → H} {W : World} {base b0 : Nat} {r : Reach} {sp : Nat → Bool} {held : Bool} {v : Value} {d : DataW H} {p : List MemPlace}
    (hv : Value.okWide Try.prog W r b0 24 v) (h : DataW.Trod enc Try.prog W base sp held 24 v d p) : ∃ t i r : ByteArray, v = .agg #[.string t, .string i, .string r] := by
  obtain ⟨c0, c1, c2, y0, y1, y2, n, rfl, _, _, h0, h1, h2⟩ := open_agg3 Try.underlying24 (by kernel_rfl) cells24 hv h
  obtain ⟨s0, e0, _⟩ := DataW.trod_string Try.underlying9 h0
  obtain ⟨s1, e1, _⟩ := DataW.trod_string Try.underlying9 h1
  obtain ⟨s2, e2, _⟩ := DataW.trod_string Try.underlying9 h2
  simp at e0 e1 e2
  subst e0 e1 e2
  exact ⟨s0, s1, s2, rfl⟩
end Go.Proofs.Qxb6627563a
