/-
  The plain part of seat b2745a: what 'upperByte' and 'IsUpperOf' compute, with no Go in sight.
-/
namespace Go.Proofs.Ybulkbdvc.P

/-- 'upperByte' on a byte. -/
def upB (c : UInt8) : UInt8 := if 97 ≤ c.toNat ∧ c.toNat ≤ 122 then c - 32 else c

theorem upB_yes (c : UInt8) (h1 : 97 ≤ c.toNat) (h2 : c.toNat ≤ 122) : ((upB c).toNat : Int) = (c.toNat : Int) - 32 := by
  unfold upB
  rw [if_pos ⟨h1, h2⟩, UInt8.toNat_sub]
  have : (32 : UInt8).toNat = 32 := rfl
  omega

theorem upB_no (c : UInt8) (h : ¬ (97 ≤ c.toNat ∧ c.toNat ≤ 122)) : upB c = c := by
  unfold upB
  rw [if_neg h]

/-- 'IsUpperOf' on the lists of the bytes. -/
def isUp (u s : List UInt8) : Bool := u == s.map upB

theorem isUp_len {u s : List UInt8} (h : u.length ≠ s.length) : isUp u s = false := by
  unfold isUp
  rw [beq_eq_false_iff_ne]
  intro e
  apply h
  rw [e, List.length_map]

theorem isUp_at {u s : List UInt8} (k : Nat) (hu : k < u.length) (hs : k < s.length) (h : upB s[k] ≠ u[k]) : isUp u s = false := by
  unfold isUp
  rw [beq_eq_false_iff_ne]
  intro e
  apply h
  have : u[k]? = (s.map upB)[k]? := by rw [← e]
  rw [List.getElem?_map, List.getElem?_eq_getElem hu, List.getElem?_eq_getElem hs] at this
  simp at this
  exact this.symm

theorem isUp_all {u s : List UInt8} (hl : u.length = s.length) (h : ∀ j (hu : j < u.length) (hs : j < s.length), upB s[j] = u[j]) : isUp u s = true := by
  unfold isUp
  rw [beq_iff_eq]
  apply List.ext_getElem
  · simpa using hl
  · intro i h1 h2
    rw [List.getElem_map]
    exact (h i h1 (by omega)).symm

theorem isUp_self (s : List UInt8) : isUp (s.map upB) s = true := by
  unfold isUp
  exact beq_self_eq_true _

theorem isUp_set (s : List UInt8) (k : Nat) (c : UInt8) (hk : k < s.length) (h : c ≠ upB s[k]) : isUp ((s.map upB).set k c) s = false := by
  unfold isUp
  rw [beq_eq_false_iff_ne]
  intro e
  apply h
  have : ((s.map upB).set k c)[k]? = (s.map upB)[k]? := by rw [e]
  rw [List.getElem?_set_self (by simpa using hk), List.getElem?_map, List.getElem?_eq_getElem hk] at this
  simpa using this

end Go.Proofs.Ybulkbdvc.P
