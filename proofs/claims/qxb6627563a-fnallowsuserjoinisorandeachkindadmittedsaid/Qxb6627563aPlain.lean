/-
  THE PLAIN LAW OF SEAT b6627563a: kinds of users, a list of them, which users it admits.
-/
import Derived.Laws.StructEq
namespace Go.Proofs.Qxb6627563a.Plain

/-- the kind (t, r, b) names the user (ut, ui, ur) -/
def mt (t r : ByteArray) (b : Bool) (ut ui ur : ByteArray) : Bool := (t.toList == ut.toList) && ((r.toList == ur.toList) && (b == (ui.toList == [42])))

/-- one of the kinds names the user -/
def anyMt (l : List (ByteArray × ByteArray × Bool)) (ut ui ur : ByteArray) : Bool := l.any fun x => mt x.1 x.2.1 x.2.2 ut ui ur

/-- what AllowsUser answers for a model of one type and one relation -/
def au (td rn : ByteArray) (l : List (ByteArray × ByteArray × Bool)) (ot rel ut ui ur : ByteArray) : Bool :=
  (ot.toList == td.toList) && ((rel.toList == rn.toList) && anyMt l ut ui ur)

theorem anyMt_append (l l' : List (ByteArray × ByteArray × Bool)) (ut ui ur : ByteArray) : anyMt (l ++ l') ut ui ur = (anyMt l ut ui ur || anyMt l' ut ui ur) := by
  simp [anyMt, List.any_append]

theorem mt_self (t r i : ByteArray) : mt t r (i.toList == [42]) t i r = true := by simp [mt]

/-- law 1, its first half: u is admitted where its kind is inserted -/
theorem au_self (td rn : ByteArray) (l l' : List (ByteArray × ByteArray × Bool)) (ut ui ur : ByteArray) :
    au td rn (l ++ (ut, ur, ui.toList == [42]) :: l') td rn ut ui ur = true := by
  have h : anyMt (l ++ (ut, ur, ui.toList == [42]) :: l') ut ui ur = true := by
    rw [anyMt_append]
    simp [anyMt, mt_self]
  simp [au, h]

/-- law 1, its second half -/
theorem au_insert (td rn ot rel : ByteArray) (l l' : List (ByteArray × ByteArray × Bool)) (ut ui ur vt vi vr : ByteArray) :
    au td rn (l ++ (ut, ur, ui.toList == [42]) :: l') ot rel vt vi vr =
      (au td rn (l ++ l') ot rel vt vi vr || ((ot.toList == td.toList) && ((rel.toList == rn.toList) && ((ut.toList == vt.toList) && ((ur.toList == vr.toList) && ((ui.toList == [42]) == (vi.toList == [42]))))))) := by
  have e : anyMt (l ++ (ut, ur, ui.toList == [42]) :: l') vt vi vr = (anyMt (l ++ l') vt vi vr || mt ut ur (ui.toList == [42]) vt vi vr) := by
    rw [anyMt_append, anyMt_append]
    have e2 : anyMt ((ut, ur, ui.toList == [42]) :: l') vt vi vr = (mt ut ur (ui.toList == [42]) vt vi vr || anyMt l' vt vi vr) := rfl
    rw [e2]
    cases anyMt l vt vi vr <;> cases anyMt l' vt vi vr <;> cases mt ut ur (ui.toList == [42]) vt vi vr <;> rfl
  unfold au
  rw [e]
  have e3 : mt ut ur (ui.toList == [42]) vt vi vr = ((ut.toList == vt.toList) && ((ur.toList == vr.toList) && ((ui.toList == [42]) == (vi.toList == [42])))) := rfl
  rw [e3]
  cases (ot.toList == td.toList) <;> cases (rel.toList == rn.toList) <;> simp

/-- law 2, its first half -/
theorem au_join (td rn ot rel : ByteArray) (l l' : List (ByteArray × ByteArray × Bool)) (vt vi vr : ByteArray) :
    au td rn (l ++ l') ot rel vt vi vr = (au td rn l ot rel vt vi vr || au td rn l' ot rel vt vi vr) := by
  unfold au
  rw [anyMt_append]
  cases (ot.toList == td.toList) <;> cases (rel.toList == rn.toList) <;> simp

/-- law 2, its second half: each kind admits its own user -/
theorem au_own (td rn : ByteArray) (l : List (ByteArray × ByteArray × Bool)) (t r i : ByteArray) (b : Bool) (hm : (t, r, b) ∈ l) (hi : (i.toList == [42]) = b) : au td rn l td rn t i r = true := by
  have h : anyMt l t i r = true := by
    unfold anyMt
    rw [List.any_eq_true]
    exact ⟨(t, r, b), hm, by simp [mt, hi]⟩
  simp [au, h]

/-- the kinds from place lo on, n of them -/
def kinds (g : Nat → ByteArray × ByteArray × Bool) (lo n : Nat) : List (ByteArray × ByteArray × Bool) := (List.range' lo n).map g

theorem kinds_zero (g : Nat → ByteArray × ByteArray × Bool) (lo : Nat) : kinds g lo 0 = [] := rfl
theorem kinds_succ (g : Nat → ByteArray × ByteArray × Bool) (lo n : Nat) : kinds g lo (n + 1) = kinds g lo n ++ [g (lo + n)] := by
  simp [kinds, List.range'_1_concat]
theorem kinds_append (g : Nat → ByteArray × ByteArray × Bool) (lo m n : Nat) : kinds g lo (m + n) = kinds g lo m ++ kinds g (lo + m) n := by
  simp [kinds, ← List.map_append, List.range'_append_1]
theorem kinds_mem (g : Nat → ByteArray × ByteArray × Bool) (n i : Nat) (h : i < n) : g i ∈ kinds g 0 n := by
  unfold kinds
  exact List.mem_map.2 ⟨i, by simp [List.mem_range'_1]; exact h, rfl⟩
theorem kinds_length (g : Nat → ByteArray × ByteArray × Bool) (lo n : Nat) : (kinds g lo n).length = n := by simp [kinds]

end Go.Proofs.Qxb6627563a.Plain
