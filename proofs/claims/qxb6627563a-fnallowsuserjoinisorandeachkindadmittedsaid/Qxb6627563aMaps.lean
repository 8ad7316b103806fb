/-
  TWO LAWS ON MAPS KEYED BY STRINGS, whatever the elements: a store of the first key into a map that the call made; a look-up in a map of one key.
-/
import Derived.WalkKit
import Derived.MapKept
namespace Go.Proofs.Qxb6627563a
open Go.RowKit

/-- w' is w, but for block r -/
structure SetAt (w w' : World) (r : Nat) (o : Obj) : Prop where
  here : w'.heap[r]? = some o
  away : ∀ b, b ≠ r → w'.heap[b]? = w.heap[b]?
  size : w'.heap.size = w.heap.size
  os : w'.os = w.os
  tape : w'.tape = w.tape
  output : w'.output = w.output

theorem SetAt.below {w0 w w' : World} {r B : Nat} {o : Obj} (h : SetAt w w' r o) (hb : Below B w0 w) (hr : B ≤ r) : Below B w0 w' :=
  hb.trans ⟨h.os, h.tape, h.output, Nat.le_of_eq h.size.symm, fun k hk => h.away k (by omega)⟩

theorem run_insert_new {P : Program} (w : World) {t kt et : TypeId} (hu : P.underlying t = some (.map kt et)) (hk : P.underlying kt = some .string) (r : Nat) (s : ByteArray) (v : Value) (c : Nat)
    (hb : w.heap[r]? = some (.map #[] c)) :
    (Instr.mapUpdate t (.map (some r)) (.string s) v).run P w = .ok () { w with heap := w.heap.setIfInBounds r (.map #[{ key := .string s, val := v, born := c }] (c + 1)) } := by
  have h1 : ∀ e n, (Instr.checkKey e (n + 1) kt (.string s)).run P w = .ok () w := fun e n => by
    simp [Instr.checkKey, run_underlying hk]
  simp [Instr.mapUpdate, run_underlying hu, MapKept.run_getObj_map hb, h1 _ 9999, Instr.findKey, run_underlying hk, Instr.findNow, MapKept.run_setObj_map _ hb, Result.andThen]

theorem run_lookup_one {P : Program} (w : World) {t kt et : TypeId} (hu : P.underlying t = some (.map kt et)) (hk : P.underlying kt = some .string) (r : Nat) (s k0 : ByteArray) (v : Value) (b c : Nat)
    (hb : w.heap[r]? = some (.map #[{ key := .string k0, val := v, born := b }] c)) (z : Value) (hz : (zeroValue et).run P w = .ok z w) :
    (Instr.lookup t (.map (some r)) (.string s) false).run P w = .ok (if s == k0 then v else z) w := by
  have h1 : ∀ e n, (Instr.checkKey e (n + 1) kt (.string s)).run P w = .ok () w := fun e n => by
    simp [Instr.checkKey, run_underlying hk]
  cases hs : s == k0 with
  | true => simp [Instr.lookup, run_underlying hu, MapKept.run_getObj_map hb, h1 _ 9999, Instr.findKey, run_underlying hk, Instr.findNow, Instr.sameNow, hs, Result.andThen]
  | false => simp [Instr.lookup, run_underlying hu, MapKept.run_getObj_map hb, h1 _ 9999, Instr.findKey, run_underlying hk, Instr.findNow, Instr.sameNow, hs, hz, Result.andThen]

/-- it fits at an 'insert' alone: a guard for the walk -/
theorem at_insert {P : Program} {ops : Array Oper} {Q : Exit → Act → World → Prop} {rest : List Oper} {a : Act} {w : World} {dst : Option Nat} {t t' : TypeId} {m k v : Operand} {pos : String} {after : Array Edge}
    (h : wpList P ops Q ({ dst := dst, op := .insert t m k v, type := t', pos := pos, after := after, guard := none } :: rest) a w) :
    wpList P ops Q ({ dst := dst, op := .insert t m k v, type := t', pos := pos, after := after, guard := none } :: rest) a w := h

theorem wpList_insert_new {P : Program} {w : World} {ops : Array Oper} {rest : List Oper} {o : Oper} {a : Act} {Q : Exit → Act → World → Prop}
    (hg : o.guard = none) (hd : o.dst = none) (m k v : Operand) (t kt et : TypeId) (hop : o.op = .insert t m k v) (hu : P.underlying t = some (.map kt et)) (hk : P.underlying kt = some .string)
    (r : Nat) (s : ByteArray) (val : Value) (c : Nat) (hm : a.eval m = .map (some r)) (hke : a.eval k = .string s) (hv : a.eval v = val) (hb : w.heap[r]? = some (.map #[] c))
    (hK : ∀ w', SetAt w w' r (.map #[{ key := .string s, val := val, born := c }] (c + 1)) → wpList P ops Q rest a w') : wpList P ops Q (o :: rest) a w := by
  refine wpList_plain hg fun K' hK' => ?_
  have hrun := run_insert_new (P := P) w hu hk r s val c hb
  unfold Oper.wp
  simp [execOp, hop, hm, hke, hv, hrun, Result.andThen]
  refine hK' _ _ ?_
  rw [hd]
  exact hK _ ⟨(MapKept.heap_set hb).1, (MapKept.heap_set hb).2, by simp, rfl, rfl, rfl⟩

end Go.Proofs.Qxb6627563a
