import Derived.Test.Qxb6627563aRefs
namespace Go.Proofs.Qxb6627563a
open Go.ChangeShapes Go.WideShapes Go.ChangeAt Go.RowKit
set_option linter.unusedVariables false

theorem mk43 (w : World) : (Instr.makeSlice 43 (.int .i64 1) (.int .i64 1)).run Try.prog w = .ok (.slice (some ⟨w.heap.size, 0, none⟩) 1 1) (w.alloc (.cells #[.string ⟨#[]⟩, .map none, .pointer none] 59)) := by kernel_rfl

/-- a model of one type and one relation, in memory -/
structure ModelAt (w : World) (M T D Me R : Nat) (td rn : ByteArray) (v : Value) : Prop where
  m : w.cell? ⟨M, 2, none⟩ = some (.map (some T))
  t : w.heap[T]? = some (.map #[{ key := .string td, val := .pointer (some ⟨D, 0, none⟩), born := 0 }] 1)
  d : w.cell? ⟨D, 2, none⟩ = some (.pointer (some ⟨Me, 0, none⟩))
  e : w.cell? ⟨Me, 0, none⟩ = some (.map (some R))
  r : w.heap[R]? = some (.map #[{ key := .string rn, val := .agg #[v], born := 0 }] 1)

theorem hid {p : Prop} (h : p) : Hid p := h

theorem lt_of_heap {w : World} {r : Nat} {o : Obj} (h : w.heap[r]? = some o) : r < w.heap.size := (Array.getElem?_eq_some_iff.1 h).1

theorem ModelAt.later {w w' : World} {M T D Me R : Nat} {td rn : ByteArray} {v : Value} (h : ModelAt w M T D Me R td rn v) (hb : Below w.heap.size w w') : ModelAt w' M T D Me R td rn v where
  m := by rw [hb.cell (World.block_lt_of_cell? _ _ h.m)]; exact h.m
  t := by rw [hb.block T (lt_of_heap h.t)]; exact h.t
  d := by rw [hb.cell (World.block_lt_of_cell? _ _ h.d)]; exact h.d
  e := by rw [hb.cell (World.block_lt_of_cell? _ _ h.e)]; exact h.e
  r := by rw [hb.block R (lt_of_heap h.r)]; exact h.r

theorem heap1 (w : World) (A X B C : Obj) : ((((w.alloc A).alloc X).alloc B).alloc C).heap[w.heap.size + 1]? = some X := by
  show ((((w.heap.push A).push X).push B).push C)[w.heap.size + 1]? = some X
  rw [Array.getElem?_push, if_neg (by simp), Array.getElem?_push, if_neg (by simp), Array.getElem?_push, if_pos (by simp)]

theorem step1 {w w1 : World} {A B C X o : Obj} (h : SetAt ((((w.alloc A).alloc X).alloc B).alloc C) w1 (w.heap.size + 1) o) : Below w.heap.size w w1 ∧ w1.heap[w.heap.size]? = some A ∧ w.heap.size < w1.heap.size := by
  refine ⟨h.below ((below_alloc3 w A X B).alloc (by simp; omega) C) (by omega), ?_, ?_⟩
  · rw [h.away _ (by omega)]
    show ((((w.heap.push A).push X).push B).push C)[w.heap.size]? = some A
    rw [Array.getElem?_push, if_neg (by simp; omega), Array.getElem?_push, if_neg (by simp; omega), Array.getElem?_push, if_neg (by simp), Array.getElem?_push, if_pos rfl]
  · rw [h.size]; simp; omega

theorem three_cells {w : World} {N : Nat} {a b c : Value} {t : TypeId} (h : w.heap[N]? = some (.cells #[a, b, c] t)) :
    w.cell? ⟨N, 0, none⟩ = some a ∧ w.cell? ⟨N, 1, none⟩ = some b ∧ w.cell? ⟨N, 2, none⟩ = some c ∧ ∀ j, w.frozen? ⟨N, j, none⟩ = false := by
  refine ⟨by simp [World.cell?, h], by simp [World.cell?, h], by simp [World.cell?, h], fun j => by simp [World.frozen?, h]⟩

theorem heap2 (w : World) (X : Obj) : (w.alloc X).heap[w.heap.size]? = some X := by
  show (w.heap.push X)[w.heap.size]? = some X
  simp

theorem step2 {w0 w w1 : World} {X o A : Obj} {N : Nat} (h : SetAt (w.alloc X) w1 w.heap.size o) (hb : Below N w0 w) (hN : w.heap[N]? = some A) : Below N w0 w1 ∧ w1.heap[N]? = some A ∧ w1.heap[w.heap.size]? = some o ∧ N < w1.heap.size ∧ w.heap.size < w1.heap.size := by
  have hlt := lt_of_heap hN
  refine ⟨h.below (hb.alloc (by omega) X) (by omega), ?_, h.here, ?_, ?_⟩
  · rw [h.away _ (by omega)]
    show (w.heap.push X)[N]? = some A
    rw [Array.getElem?_push, if_neg (by omega)]; exact hN
  · rw [h.size]; simp; omega
  · rw [h.size]; simp

theorem size3 (w : World) (a b c : Addr) (x y z : Value) : (((w.setCell a x).setCell b y).setCell c z).heap.size = w.heap.size := by simp [World.setCell]

theorem heap3' (w : World) (A X : Obj) : ((w.alloc A).alloc X).heap[w.heap.size + 1]? = some X := by
  show ((w.heap.push A).push X)[w.heap.size + 1]? = some X
  rw [Array.getElem?_push, if_pos (by simp)]

theorem heap3 (w : World) (a b c : Addr) (x y z : Value) (A X : Obj) : (((((w.setCell a x).setCell b y).setCell c z).alloc A).alloc X).heap[w.heap.size + 1]? = some X := by
  have h := heap3' (((w.setCell a x).setCell b y).setCell c z) A X
  rwa [size3] at h

theorem step3 {w0 w w4 : World} {N R : Nat} {x y z p q s : Value} {t e : TypeId} {X o r : Obj}
    (h : SetAt (((((w.setCell ⟨N, 0, none⟩ x).setCell ⟨N, 1, none⟩ y).setCell ⟨N, 2, none⟩ z).alloc (.cells #[.map (some R)] e)).alloc X) w4 (w.heap.size + 1) o)
    (hb : Below N w0 w) (hN : w.heap[N]? = some (.cells #[p, q, s] t)) (hR : w.heap[R]? = some r) (hNR : N < R) :
    Below N w0 w4 ∧ w4.heap[w.heap.size + 1]? = some o ∧ w4.cell? ⟨N, 2, none⟩ = some z ∧ w4.cell? ⟨w.heap.size, 0, none⟩ = some (.map (some R)) ∧ w4.heap[R]? = some r := by
  have hNl := lt_of_heap hN
  have hRl := lt_of_heap hR
  have hsz := size3 w ⟨N, 0, none⟩ ⟨N, 1, none⟩ ⟨N, 2, none⟩ x y z
  obtain ⟨k0, k1, k2, _⟩ := three_cells hN
  have hd : (((w.setCell ⟨N, 0, none⟩ x).setCell ⟨N, 1, none⟩ y).setCell ⟨N, 2, none⟩ z).cell? ⟨N, 2, none⟩ = some z := by
    refine World.cell?_setCell_same' _ _ _ ?_
    rw [World.cell?_setCell_other _ _ _ _ (by intro hh; injection hh; omega), World.cell?_setCell_other _ _ _ _ (by intro hh; injection hh; omega), k2]; rfl
  have hr : (((w.setCell ⟨N, 0, none⟩ x).setCell ⟨N, 1, none⟩ y).setCell ⟨N, 2, none⟩ z).heap[R]? = some r := by
    rw [Below.heap_setCell _ _ _ _ (by simp; omega), Below.heap_setCell _ _ _ _ (by simp; omega), Below.heap_setCell _ _ _ _ (by simp; omega)]; exact hR
  have hbb : Below N w0 (((w.setCell ⟨N, 0, none⟩ x).setCell ⟨N, 1, none⟩ y).setCell ⟨N, 2, none⟩ z) := ((hb.setCell (Nat.le_refl _) x).setCell (Nat.le_refl _) y).setCell (Nat.le_refl _) z
  generalize (((w.setCell ⟨N, 0, none⟩ x).setCell ⟨N, 1, none⟩ y).setCell ⟨N, 2, none⟩ z) = v at h hsz hd hr hbb
  rw [← hsz] at h hNl hRl ⊢
  refine ⟨h.below ((hbb.alloc (by omega) _).alloc (by simp; omega) _) (by omega), h.here, ?_, ?_, ?_⟩
  · rw [World.cell?_of_block (w := (v.alloc (.cells #[.map (some R)] e)).alloc X) (h.away N (by omega))]
    rw [World.cell?_alloc_lt _ _ _ (by simp; omega), World.cell?_alloc_lt _ _ _ (by simp; omega)]
    exact hd
  · rw [World.cell?_of_block (w := (v.alloc (.cells #[.map (some R)] e)).alloc X) (h.away v.heap.size (by omega))]
    rw [World.cell?_alloc_lt _ _ _ (by simp), World.cell?_alloc_at _ _ _ _ rfl]
    rfl
  · rw [h.away R (by omega), Below.heap_alloc _ _ _ (by simp; omega), Below.heap_alloc _ _ _ (by omega)]
    exact hr

theorem newmodel_any (s : ByteArray) (a : Option Addr) (n c : Nat) (m : Option Nat) (w : World) :
    Calls Try.prog 14 #[.string s, .slice a n c, .map m] w fun e w' => e = .returned (.pointer (some ⟨w.heap.size, 0, none⟩)) ∧ w' = w.alloc (.cells #[.string s, .slice a n c, .map m] 66) := by
  go_enter Try.func14, Try.ntmps14
  go_wp2
  go_ret
  exact ⟨rfl, rfl⟩

set_option maxHeartbeats 2000000 in
theorem model_any (td rn : ByteArray) (a : Option Addr) (n c : Nat) (w : World) :
    Calls Try.prog 9 #[.string td, .string rn, .slice a n c] w fun e w' =>
      ∃ M T D Me R, e = .returned (.pointer (some ⟨M, 0, none⟩)) ∧ ModelAt w' M T D Me R td rn (.slice a n c) ∧ Below w.heap.size w w' := by
  have hmk := mk43
  have hmm := @run_makeMap Try.prog
  go_enter Try.func9, Try.ntmps9
  go_wp2_with (first
    | (with_reducible refine at_insert (t := 51) ?_; go_must (refine wpList_insert_new rfl rfl _ _ _ 51 9 44 rfl Try.underlying51 Try.underlying9 (w.heap.size + 1) rn _ 0 rfl rfl rfl (heap1 _ _ _ _ _) ?_; intro w1 hs1; obtain ⟨b1, n1, z1⟩ := step1 hs1; have N1 := hid n1; clear hs1 n1))
    | (with_reducible refine at_insert (t := 55) ?_; go_must (refine wpList_insert_new rfl rfl _ _ _ 55 9 54 rfl Try.underlying55 Try.underlying9 w1.heap.size rn (.agg #[.slice a n c]) 0 rfl rfl rfl (heap2 _ _) ?_; intro w2 hs2; obtain ⟨b2, n2, r2, z2, y2⟩ := step2 hs2 b1 N1.out; have R2 := hid r2; have N2 := hid n2; obtain ⟨k0, k1, k2, kf⟩ := three_cells n2; clear hs2 r2 n2))
    | (with_reducible refine at_insert (t := 61) ?_; go_must (refine wpList_insert_new rfl rfl _ _ _ 61 9 60 rfl Try.underlying61 Try.underlying9 (w2.heap.size + 1) td (.pointer (some ⟨w.heap.size, 0, none⟩)) 0 rfl rfl rfl (heap3 _ _ _ _ _ _ _ _ _) ?_; intro w4 hs4; obtain ⟨b4, t4, d4, e4, r4⟩ := step3 hs4 b2 N2.out R2.out z1; have T4 := hid t4; have R4 := hid r4; have D4 := hid d4; have E4 := hid e4; clear hs4 t4 r4 d4 e4 k0 k1 k2 kf))
    | fail)
  refine (newmodel_any _ _ _ _ _ _).mono ?_
  rintro e w5 ⟨rfl, rfl⟩
  go_wp2_with fail
  go_ret
  refine ⟨w4.heap.size, w2.heap.size + 1, w.heap.size, w2.heap.size, w1.heap.size, rfl, ?_, ?_⟩
  · refine ModelAt.mk ?_ ?_ ?_ ?_ ?_
    · rw [World.cell?_alloc_at _ _ _ _ rfl]; rfl
    · rw [Below.heap_alloc _ _ _ (lt_of_heap T4.out)]; exact T4.out
    · rw [World.cell?_alloc_lt _ _ _ (World.block_lt_of_cell? _ _ D4.out)]; exact D4.out
    · rw [World.cell?_alloc_lt _ _ _ (World.block_lt_of_cell? _ _ E4.out)]; exact E4.out
    · rw [Below.heap_alloc _ _ _ (lt_of_heap R4.out)]; exact R4.out
  · exact b4.alloc b4.size _
end Go.Proofs.Qxb6627563a
