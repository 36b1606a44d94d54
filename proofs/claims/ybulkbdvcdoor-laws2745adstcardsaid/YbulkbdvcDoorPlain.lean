/-
  The plain part of seat b2745aD: numbers written in digits, names, offsets and dates of a TZ string, with no Go in sight.
-/
namespace Go.Proofs.YbulkbdvcDoor.P

/-- The number that a list of digits writes. -/
def val (l : List UInt8) : Nat := l.foldl (fun n c => n * 10 + (c.toNat - 48)) 0

def digB (c : UInt8) : Bool := decide (48 ≤ c.toNat ∧ c.toNat ≤ 57)

theorem val_snoc (l : List UInt8) (c : UInt8) : val (l ++ [c]) = val l * 10 + (c.toNat - 48) := by
  simp [val]

theorem fold_ge (l : List UInt8) : ∀ n, n ≤ l.foldl (fun n c => n * 10 + (c.toNat - 48)) n := by
  induction l with
  | nil => intro n; exact Nat.le_refl _
  | cons c l ih =>
    intro n
    rw [List.foldl_cons]
    have := ih (n * 10 + (c.toNat - 48))
    omega

theorem val_append_ge (a b : List UInt8) : val a ≤ val (a ++ b) := by
  unfold val
  rw [List.foldl_append]
  exact fold_ge b _

theorem val_take (l : List UInt8) (k : Nat) : val (l.take k) ≤ val l := by
  have := val_append_ge (l.take k) (l.drop k)
  rwa [List.take_append_drop] at this

theorem fold_pow (l : List UInt8) : ∀ n, l.foldl (fun n c => n * 10 + (c.toNat - 48)) n = n * 10 ^ l.length + l.foldl (fun n c => n * 10 + (c.toNat - 48)) 0 := by
  induction l with
  | nil => intro n; simp
  | cons c l ih =>
    intro n
    rw [List.foldl_cons, List.foldl_cons, ih (n * 10 + (c.toNat - 48)), ih (0 * 10 + (c.toNat - 48)), List.length_cons, Nat.pow_succ, Nat.add_mul]
    simp [Nat.mul_assoc, Nat.add_assoc, Nat.mul_comm]

theorem val_cons (c : UInt8) (l : List UInt8) : val (c :: l) = (c.toNat - 48) * 10 ^ l.length + val l := by
  unfold val
  rw [List.foldl_cons, fold_pow]
  simp

/-- l writes the number n in digits, three at most. -/
structure Num (l : List UInt8) (n : Nat) : Prop where
  ne : l ≠ []
  dig : ∀ c ∈ l, 48 ≤ c.toNat ∧ c.toNat ≤ 57
  val : val l = n
  len : l.length ≤ 3

theorem Num.pos {l : List UInt8} {n : Nat} (h : Num l n) : 0 < l.length := List.length_pos_iff.2 h.ne

/-- No digit comes next. -/
def NoDig (l : List UInt8) : Prop := ∀ c, l.head? = some c → digB c = false
/-- c does not come next. -/
def NoC (c : UInt8) (l : List UInt8) : Prop := ∀ d, l.head? = some d → d ≠ c

theorem Num.noC {l rest : List UInt8} {n : Nat} (h : Num l n) (c : UInt8) (hc : digB c = false) : NoC c (l ++ rest) := by
  intro d hd e
  cases l with
  | nil => exact h.ne rfl
  | cons x r =>
    simp at hd
    subst hd
    subst e
    have := h.dig x (by simp)
    unfold digB at hc
    rw [decide_eq_false_iff_not] at hc
    exact hc this

/-- What follows the hours: nothing, ':m', or ':m:s'. -/
def Tail (h : Nat) (tl : List UInt8) (sec : Int) : Prop :=
  (tl = [] ∧ sec = (h : Int) * 3600) ∨ (∃ M m, tl = 58 :: M ∧ Num M m ∧ m ≤ 59 ∧ sec = (h : Int) * 3600 + (m : Int) * 60) ∨
  (∃ M m S s, tl = 58 :: (M ++ 58 :: S) ∧ Num M m ∧ m ≤ 59 ∧ Num S s ∧ s ≤ 59 ∧ sec = (h : Int) * 3600 + (m : Int) * 60 + (s : Int))

/-- l writes an offset or a time of day of v seconds. -/
def Off (l : List UInt8) (v : Int) : Prop :=
  ∃ sg H h tl sec, l = sg ++ (H ++ tl) ∧ Num H h ∧ h ≤ 167 ∧ Tail h tl sec ∧ ((sg = [] ∧ v = sec) ∨ (sg = [43] ∧ v = sec) ∨ (sg = [45] ∧ v = -sec))

/-! ### writing a number: what a round of 'zzs2745aitoa' keeps -/
def digOf (m : Nat) : UInt8 := UInt8.ofNat (48 + m % 10)
theorem digOf_nat (m : Nat) : (digOf m).toNat = 48 + m % 10 := by
  unfold digOf; rw [UInt8.toNat_ofNat']; omega

/-- Behind some rounds: m is still to be written, l is written. -/
structure Wrote (n m : Nat) (l : List UInt8) : Prop where
  dig : ∀ c ∈ l, 48 ≤ c.toNat ∧ c.toNat ≤ 57
  sum : m * 10 ^ l.length + val l = n
  some : 0 < m ∨ l ≠ []
  len : l.length ≤ 3

theorem Wrote.start {n : Nat} (h : 0 < n) : Wrote n n [] := ⟨by simp, by simp [val], .inl h, by simp⟩

theorem Wrote.step {n m : Nat} {l : List UInt8} (h : Wrote n m l) (hm : 0 < m) (hn : n ≤ 999) : Wrote n (m / 10) (digOf m :: l) := by
  have hl : l.length ≤ 2 := by
    have hs := h.sum
    have hlen := h.len
    have hk : l.length = 0 ∨ l.length = 1 ∨ l.length = 2 ∨ l.length = 3 := by omega
    rcases hk with e | e | e | e <;> rw [e] at hs ⊢ <;> omega
  refine ⟨?_, ?_, .inr (by simp), by simp; omega⟩
  · intro c hc
    simp at hc
    rcases hc with rfl | hc
    · rw [digOf_nat]; omega
    · exact h.dig c hc
  · rw [val_cons, digOf_nat, List.length_cons, Nat.pow_succ, ← h.sum]
    have e : m = m / 10 * 10 + m % 10 := by omega
    generalize 10 ^ l.length = p
    have e1 : m * p = (m / 10) * (p * 10) + (48 + m % 10 - 48) * p := by
      conv => lhs; rw [e]
      rw [Nat.add_mul, Nat.mul_assoc, Nat.mul_comm 10 p]
      congr 2
      omega
    rw [e1]; omega

theorem Wrote.done {n : Nat} {l : List UInt8} (h : Wrote n 0 l) : Num l n :=
  ⟨by rcases h.some with h | h; · omega
      · exact h, h.dig, by have := h.sum; simpa using this, h.len⟩

end Go.Proofs.YbulkbdvcDoor.P
