import Derived.Test.Qxb6627563aModel
namespace Go.Proofs.Qxb6627563a
open Go.ChangeShapes Go.WideShapes Go.ChangeAt Go.RowKit
set_option linter.unusedVariables false

theorem zero54 (w : World) : (zeroValue 54).run Try.prog w = .ok (.agg #[.slice none 0 0]) w := by kernel_rfl
theorem zero60 (w : World) : (zeroValue 60).run Try.prog w = .ok (.pointer none) w := by kernel_rfl

theorem field54 (a : Option Addr) (n c : Nat) (w : World) : (Instr.field 54 (.agg #[.slice a n c]) 0).run Try.prog w = .ok (.slice a n c) w := by kernel_rfl

theorem directTypes_yes {M T D Me R : Nat} {td rn : ByteArray} {a : Option Addr} {n c : Nat} (rel : ByteArray) (w : World) (hm : ModelAt w M T D Me R td rn (.slice a n c)) (h : (rel.toList == rn.toList) = true) :
    Calls Try.prog 17 #[.pointer (some ⟨D, 0, none⟩), .string rel] w fun e w' => e = .returned (.slice a n c) ∧ w' = w := by
  have hlk := run_lookup_one (P := Try.prog) w Try.underlying55 Try.underlying9 R rel rn (.agg #[.slice a n c]) 0 1 hm.r _ (zero54 w)
  rw [beq_toListBytes, h, if_pos rfl] at hlk
  have hd := hm.d
  have he := hm.e
  clear hm h
  have hf := field54
  go_enter Try.func17, Try.ntmps17
  go_wp2
  go_ret
  exact ⟨rfl, rfl⟩

theorem directTypes_no {M T D Me R : Nat} {td rn : ByteArray} {v : Value} (rel : ByteArray) (w : World) (hm : ModelAt w M T D Me R td rn v) (h : (rel.toList == rn.toList) = false) :
    Calls Try.prog 17 #[.pointer (some ⟨D, 0, none⟩), .string rel] w fun e w' => e = .returned (.slice none 0 0) ∧ w' = w := by
  have hlk := run_lookup_one (P := Try.prog) w Try.underlying55 Try.underlying9 R rel rn (.agg #[v]) 0 1 hm.r _ (zero54 w)
  rw [beq_toListBytes, h] at hlk
  simp only [Bool.false_eq_true, if_false] at hlk
  have hd := hm.d
  have he := hm.e
  clear hm h
  have hf := field54
  go_enter Try.func17, Try.ntmps17
  go_wp2
  go_ret
  exact ⟨rfl, rfl⟩

theorem direct_yes {M T D Me R : Nat} {td rn : ByteArray} {a : Option Addr} {n c : Nat} (ot rel : ByteArray) (w : World) (hm : ModelAt w M T D Me R td rn (.slice a n c)) (h1 : (ot.toList == td.toList) = true) (h : (rel.toList == rn.toList) = true) :
    Calls Try.prog 15 #[.pointer (some ⟨M, 0, none⟩), .string ot, .string rel] w fun e w' => e = .returned (.slice a n c) ∧ w' = w := by
  have hlk := run_lookup_one (P := Try.prog) w Try.underlying61 Try.underlying9 T ot td (.pointer (some ⟨D, 0, none⟩)) 0 1 hm.t _ (zero60 w)
  rw [beq_toListBytes, h1, if_pos rfl] at hlk
  have hd := hm.m
  have HM := hid hm
  have HH := hid h
  clear hm h1 h
  go_enter Try.func15, Try.ntmps15
  go_wp2_with fail
  refine (directTypes_yes rel _ HM.out HH.out).mono ?_
  rintro e w' ⟨rfl, rfl⟩
  go_wp2
  go_ret
  exact ⟨rfl, rfl⟩

theorem direct_no {M T D Me R : Nat} {td rn : ByteArray} {v : Value} (ot rel : ByteArray) (w : World) (hm : ModelAt w M T D Me R td rn v) (h : ((ot.toList == td.toList) && (rel.toList == rn.toList)) = false) :
    Calls Try.prog 15 #[.pointer (some ⟨M, 0, none⟩), .string ot, .string rel] w fun e w' => e = .returned (.slice none 0 0) ∧ w' = w := by
  have hlk := run_lookup_one (P := Try.prog) w Try.underlying61 Try.underlying9 T ot td (.pointer (some ⟨D, 0, none⟩)) 0 1 hm.t _ (zero60 w)
  have hd := hm.m
  have HM := hid hm
  cases h1 : (ot.toList == td.toList) with
  | false =>
    rw [beq_toListBytes, h1] at hlk
    simp only [Bool.false_eq_true, if_false] at hlk
    clear hm h1 h
    go_enter Try.func15, Try.ntmps15
    go_wp2
    go_ret
    exact ⟨rfl, rfl⟩
  | true =>
    rw [beq_toListBytes, h1, if_pos rfl] at hlk
    have h2 : (rel.toList == rn.toList) = false := by simpa [h1] using h
    have HH := hid h2
    clear hm h1 h h2
    go_enter Try.func15, Try.ntmps15
    go_wp2_with fail
    refine (directTypes_no rel _ HM.out HH.out).mono ?_
    rintro e w' ⟨rfl, rfl⟩
    go_wp2
    go_ret
    exact ⟨rfl, rfl⟩

/-- the cells of the k-th kind -/
theorem cells_at {w : World} {base g n cap : Nat} {l : List (ByteArray × ByteArray × Option Addr)} (h : w.ownsRow base 31 4 (.slice (some ⟨g, 0, none⟩) n cap) n (cellsOf l)) (hn : n = l.length) (k : Nat) (hk : k < l.length) :
    ∃ x, l[k]? = some x ∧ w.cell? ⟨g, k * 4, none⟩ = some (.string x.1) ∧ w.cell? ⟨g, k * 4 + 1, none⟩ = some (.string x.2.1) ∧ w.cell? ⟨g, k * 4 + 2, none⟩ = some (.pointer x.2.2) ∧ w.cell? ⟨g, k * 4 + 3, none⟩ = some (.string ⟨#[]⟩) := by
  have key : ∀ (l : List (ByteArray × ByteArray × Option Addr)) (k : Nat) (hk : k < l.length) (j : Nat), j < 4 → (cellsOf l)[k * 4 + j]? = (four l[k])[j]? := by
    intro l
    induction l with
    | nil => intro k hk; simp at hk
    | cons y l ih =>
      intro k hk j hj
      have e : cellsOf (y :: l) = four y ++ cellsOf l := by simp [cellsOf, List.flatMap_cons]
      rw [e]
      cases k with
      | zero => rw [List.getElem?_append_left (by simp [four]; omega)]; simp
      | succ k =>
        rw [List.getElem?_append_right (by simp [four]; omega)]
        have e2 : (k + 1) * 4 + j - (four y).length = k * 4 + j := by simp [four]; omega
        rw [e2, ih k (by simpa using hk) j hj]; rfl
  subst hn
  refine ⟨l[k], List.getElem?_eq_getElem hk, ?_, ?_, ?_, ?_⟩
  · rw [h.cellAt (k * 4) (by omega)]; exact key l k hk 0 (by omega)
  · rw [h.cellAt (k * 4 + 1) (by omega)]; exact key l k hk 1 (by omega)
  · rw [h.cellAt (k * 4 + 2) (by omega)]; exact key l k hk 2 (by omega)
  · rw [h.cellAt (k * 4 + 3) (by omega)]; exact key l k hk 3 (by omega)

theorem plainOf_take_succ {l : List (ByteArray × ByteArray × Option Addr)} {k : Nat} {x : ByteArray × ByteArray × Option Addr} (h : l[k]? = some x) : plainOf (l.take (k + 1)) = plainOf (l.take k) ++ [(x.1, x.2.1, x.2.2.isSome)] := by
  obtain ⟨hk, rfl⟩ := List.getElem?_eq_some_iff.1 h
  rw [List.take_succ_eq_append_getElem hk, plainOf_snoc]

theorem any_next {l : List (ByteArray × ByteArray × Option Addr)} {k : Nat} {x : ByteArray × ByteArray × Option Addr} {ut ui ur : ByteArray} (h : l[k]? = some x) (h0 : Plain.anyMt (plainOf (l.take k)) ut ui ur = false) :
    Plain.anyMt (plainOf (l.take (k + 1))) ut ui ur = Plain.mt x.1 x.2.1 x.2.2.isSome ut ui ur := by
  rw [plainOf_take_succ h, Plain.anyMt_append, h0]
  simp [Plain.anyMt]

theorem any_hit {l : List (ByteArray × ByteArray × Option Addr)} {k : Nat} {x : ByteArray × ByteArray × Option Addr} {ut ui ur : ByteArray} (h : l[k]? = some x) (hm : Plain.mt x.1 x.2.1 x.2.2.isSome ut ui ur = true) :
    Plain.anyMt (plainOf l) ut ui ur = true := by
  unfold Plain.anyMt
  rw [List.any_eq_true]
  exact ⟨_, List.mem_map.2 ⟨x, List.mem_of_getElem? h, rfl⟩, hm⟩

set_option maxHeartbeats 2000000 in
theorem allows_hit {M T D Me R : Nat} {td rn : ByteArray} {g n cap base : Nat} {l : List (ByteArray × ByteArray × Option Addr)} (ot rel ut ui ur : ByteArray) (w : World)
    (hm : ModelAt w M T D Me R td rn (.slice (some ⟨g, 0, none⟩) n cap)) (hr : w.ownsRow base 31 4 (.slice (some ⟨g, 0, none⟩) n cap) n (cellsOf l)) (hg : g < w.heap.size) (hn : n = l.length) (hl : n ≤ 1048576)
    (h1 : (ot.toList == td.toList) = true) (h2 : (rel.toList == rn.toList) = true) :
    Calls Try.prog 10 #[.pointer (some ⟨M, 0, none⟩), .string ot, .string rel, .agg #[.string ut, .string ui, .string ur]] w fun e w' =>
      e = .returned (.bool (Plain.anyMt (plainOf l) ut ui ur)) ∧ Below w.heap.size w w' := by
  have HM := hid hm
  have HR := hid hr
  have H1 := hid h1
  have H2 := hid h2
  have HN := hid hn
  clear hm hr h1 h2 hn
  go_enter Try.func10, Try.ntmps10
  go_wp2_with fail
  refine (direct_yes ot rel _ (HM.out.later ((Below.refl _ _).alloc (Nat.le_refl _) _)) H1.out H2.out).mono ?_
  rintro e w' ⟨rfl, rfl⟩
  go_wp2_with fail
  have hb0 : Below w.heap.size w (w.alloc (.cells #[.string ut, .string ui, .string ur] 38)) := (Below.refl _ _).alloc (Nat.le_refl _) _
  have c0 : (w.alloc (.cells #[.string ut, .string ui, .string ur] 38)).cell? ⟨w.heap.size, 0, none⟩ = some (.string ut) := by rw [World.cell?_alloc_at _ _ _ _ rfl]; rfl
  have c1 : (w.alloc (.cells #[.string ut, .string ui, .string ur] 38)).cell? ⟨w.heap.size, 1, none⟩ = some (.string ui) := by rw [World.cell?_alloc_at _ _ _ _ rfl]; rfl
  have c2 : (w.alloc (.cells #[.string ut, .string ui, .string ur] 38)).cell? ⟨w.heap.size, 2, none⟩ = some (.string ur) := by rw [World.cell?_alloc_at _ _ _ _ rfl]; rfl
  have hsz : w.heap.size < (w.alloc (.cells #[.string ut, .string ui, .string ur] 38)).heap.size := by simp
  generalize w.alloc (.cells #[.string ut, .string ui, .string ur] 38) = W at hb0 c0 c1 c2 hsz ⊢
  have C0 := hid c0
  have C1 := hid c1
  have C2 := hid c2
  clear c0 c1 c2
  go_loopw [16] (fun i wr => ∃ k : Nat, k ≤ n ∧ i = .int .i64 k ∧ Below W.heap.size W wr ∧ Hid (Plain.anyMt (plainOf (l.take k)) ut ui ur = false)) (fun i _ => n - (intOf i).toNat)
  case atStart => exact ⟨0, by omega, rfl, Below.refl _ _, rfl⟩
  case round =>
    obtain ⟨k, hk, rfl, hb, ha⟩ := hrel
    by_cases hlt : k < n
    · obtain ⟨x, hx, g0, g1, g2, g3⟩ := cells_at HR.out HN.out k (by rw [← HN.out]; exact hlt)
      have hgW : g < W.heap.size := by have := hb0.size; omega
      have q0 : wr.cell? ⟨g, k * 4, none⟩ = some (.string x.1) := by rw [hb.cell (by exact hgW), hb0.cell (by exact hg)]; exact g0
      have q1 : wr.cell? ⟨g, k * 4 + 1, none⟩ = some (.string x.2.1) := by rw [hb.cell (by exact hgW), hb0.cell (by exact hg)]; exact g1
      have q2 : wr.cell? ⟨g, k * 4 + 2, none⟩ = some (.pointer x.2.2) := by rw [hb.cell (by exact hgW), hb0.cell (by exact hg)]; exact g2
      have q3 : wr.cell? ⟨g, k * 4 + 3, none⟩ = some (.string ⟨#[]⟩) := by rw [hb.cell (by exact hgW), hb0.cell (by exact hg)]; exact g3
      have u0 : wr.cell? ⟨w.heap.size, 0, none⟩ = some (.string ut) := by rw [hb.cell (by exact hsz)]; exact C0.out
      have u1 : wr.cell? ⟨w.heap.size, 1, none⟩ = some (.string ui) := by rw [hb.cell (by exact hsz)]; exact C1.out
      have u2 : wr.cell? ⟨w.heap.size, 2, none⟩ = some (.string ur) := by rw [hb.cell (by exact hsz)]; exact C2.out
      have hwr : w.heap.size < wr.heap.size := by have := hb.size; omega
      have HX := hid hx
      have hk0 : (0 : Int) ≤ (k : Int) := by omega
      have hkl : (k : Int) < (n : Int) := by omega
      clear g0 g1 g2 g3 hx
      obtain ⟨xt, xr, xp⟩ := x
      simp only at q0 q1 q2
      go_wp2_with fail
      refine (matches_any xt xr _ ut ui ur xp _).mono ?_
      rintro e w3 ⟨rfl, hb3⟩
      have hb4 : Below W.heap.size W w3 := (hb.alloc hb.size _).trans (hb3.mono (by have := hb.size; simp; omega))
      clear hb3 q0 q1 q2 q3 u0 u1 u2
      cases hmt : Plain.mt xt xr xp.isSome ut ui ur with
      | true =>
        have HA := hid (any_hit HX.out hmt)
        clear hmt
        go_wp2_with fail
        go_ret
        exact ⟨by rw [HA.out]; rfl, hb0.trans (hb4.mono hb0.size)⟩
      | false =>
        have HA := hid ((any_next HX.out ha.out).trans hmt)
        clear hmt
        go_wp2_with fail
        go_roundw
        case rel => exact ⟨k + 1, by omega, by go_num, hb4, HA⟩
        case measure => simp [intOf]; omega
    · have e : k = n := by omega
      subst e
      have HA : Hid (Plain.anyMt (plainOf l) ut ui ur = false) := by
        have := ha.out
        rw [List.take_of_length_le (by rw [HN.out]; exact Nat.le_refl _)] at this
        exact this
      go_wp2_with fail
      go_ret
      exact ⟨by rw [HA.out]; rfl, hb0.trans (hb.mono hb0.size)⟩

set_option maxHeartbeats 1000000 in
/-- no kinds: nobody -/
theorem allows_nil {M : Nat} (ot rel ut ui ur : ByteArray) (w : World)
    (hd : ∀ wx, Below w.heap.size w wx → Calls Try.prog 15 #[.pointer (some ⟨M, 0, none⟩), .string ot, .string rel] wx fun e w' => e = .returned (.slice none 0 0) ∧ w' = wx) :
    Calls Try.prog 10 #[.pointer (some ⟨M, 0, none⟩), .string ot, .string rel, .agg #[.string ut, .string ui, .string ur]] w fun e w' =>
      e = .returned (.bool false) ∧ Below w.heap.size w w' := by
  have HD := hid hd
  clear hd
  go_enter Try.func10, Try.ntmps10
  go_wp2_with fail
  refine (HD.out _ ((Below.refl _ _).alloc (Nat.le_refl _) _)).mono ?_
  rintro e w' ⟨rfl, rfl⟩
  go_wp2_with fail
  refine wp_loop_rounds 1 ?_
  rw [rounds_succ]
  go_wp2_with fail
  go_ret
  exact ⟨rfl, (Below.refl _ _).alloc (Nat.le_refl _) _⟩

/-- AllowsUser, whatever the query -/
theorem allows_any {M T D Me R base : Nat} {td rn : ByteArray} {v : Value} {l : List (ByteArray × ByteArray × Option Addr)} (ot rel ut ui ur : ByteArray) (w : World)
    (hm : ModelAt w M T D Me R td rn v) (hr : Row w base v l) (hl : l.length ≤ 1048576) :
    Calls Try.prog 10 #[.pointer (some ⟨M, 0, none⟩), .string ot, .string rel, .agg #[.string ut, .string ui, .string ur]] w fun e w' =>
      e = .returned (.bool (Plain.au td rn (plainOf l) ot rel ut ui ur)) ∧ Below w.heap.size w w' := by
  cases h : ((ot.toList == td.toList) && (rel.toList == rn.toList)) with
  | false =>
    have e : Plain.au td rn (plainOf l) ot rel ut ui ur = false := by
      unfold Plain.au
      rw [← Bool.and_assoc, h]; rfl
    rw [e]
    exact allows_nil ot rel ut ui ur w fun wx hb => direct_no ot rel wx (hm.later hb) h
  | true =>
    obtain ⟨h1, h2⟩ := Bool.and_eq_true_iff.1 h
    have e : Plain.au td rn (plainOf l) ot rel ut ui ur = Plain.anyMt (plainOf l) ut ui ur := by
      unfold Plain.au
      rw [h1, h2]; rfl
    rw [e]
    have hr' := hr
    obtain ⟨_, ⟨rfl, h0⟩ | ⟨g, cap, cur, rfl, _, hh, _⟩⟩ := hr'
    · obtain rfl : l = [] := List.eq_nil_of_length_eq_zero h0
      exact allows_nil ot rel ut ui ur w fun wx hb => direct_yes ot rel wx (hm.later hb) h1 h2
    · exact allows_hit ot rel ut ui ur w hm hr (lt_of_heap hh) rfl hl h1 h2
end Go.Proofs.Qxb6627563a
