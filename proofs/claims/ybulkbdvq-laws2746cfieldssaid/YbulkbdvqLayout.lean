import Derived.Test.YbulkbdvqProg
import Derived.Test.YbulkbdvqBytes
import Derived.WalkKit
import Derived.WalkSpells
namespace Go.Proofs.Ybulkbdvq.W
open Go.RowKit
open Go.Proofs.Ybulkbdvq.B

/-- A field's text: what comes ahead of the key, the key in quotes, a colon, and what comes behind it. -/
def fld (before key colon : List UInt8) : List UInt8 := before ++ (34 :: (key ++ (34 :: 58 :: colon)))

theorem lit1 (c : UInt8) : (ByteArray.mk #[c]) = strB [c] := rfl
theorem lit2 (c d : UInt8) : (ByteArray.mk #[c, d]) = strB [c, d] := rfl

theorem ret_s {a b : ByteArray} (h : a = b) : Ending.returned (.string a) = .returned (.string b) := by rw [h]

/-- The closure of 'newLayout'. -/
theorem lam_any (x k c : List UInt8) (b : Nat) (w : World) (hc : w.cell? ⟨b, 0, none⟩ = some (.string (strB c))) (hx : (strB x).size ≤ 281474976710656) (hk : (strB k).size ≤ 100) (hcs : (strB c).size ≤ 140737488351232) :
    Calls Yba.prog 7 #[.string (strB x), .string (strB k), .pointer (some ⟨b, 0, none⟩)] w fun e w' => e = .returned (.string (strB (fld x k c))) ∧ w' = w := by
  go_enter Yba.func7, Yba.ntmps7
  go_wp2
  go_ret
  refine ⟨ret_s ?_, rfl⟩
  simp only [lit1, lit2, strB_append, fld]
  simp

def kBid : List UInt8 := [98, 105, 100]
def kStatus : List UInt8 := [115, 116, 97, 116, 117, 115]
def kReason : List UInt8 := [114, 101, 97, 115, 111, 110]
def kAward : List UInt8 := [97, 119, 97, 114, 100]
def kPrice : List UInt8 := [112, 114, 105, 99, 101]
def kPayment : List UInt8 := [112, 97, 121, 109, 101, 110, 116]

theorem heap_top (W : World) (o : Obj) (n : Nat) (hn : n = W.heap.size) : (W.alloc o).heap[n]? = some o := by subst hn; exact heap_alloc_new W o
theorem heap_past (W : World) (o : Obj) (n : Nat) (hn : n < W.heap.size) : (W.alloc o).heap[n]? = W.heap[n]? := Below.heap_alloc W o n hn
theorem info23 : (Yba.prog.info? 23).map (fun i => i.size) = some 7 := by kernel_rfl

theorem lam_s (X : ByteArray) (x : List UInt8) (K : ByteArray) (k c : List UInt8) (b : Nat) (w : World) (hX : X = strB x) (hK : K = strB k) (hc : w.cell? ⟨b, 0, none⟩ = some (.string (strB c))) (hx : (strB x).size ≤ 281474976710656) (hk : (strB k).size ≤ 100) (hcs : (strB c).size ≤ 140737488351232) :
    Calls Yba.prog 7 #[.string X, .string K, .pointer (some ⟨b, 0, none⟩)] w fun e w' => e = .returned (.string (strB (fld x k c))) ∧ w' = w := by
  subst hX hK
  exact lam_any x k c b w hc hx hk hcs

/-- The layout's seven texts. -/
def layout (o s c z : List UInt8) : Array Value := #[.string (strB (fld (123 :: o) kBid c)), .string (strB (fld (44 :: s) kStatus c)), .string (strB (fld (44 :: s) kReason c)), .string (strB (fld (44 :: s) kAward c)), .string (strB (fld (44 :: s) kPrice c)), .string (strB (fld (44 :: s) kPayment c)), .string (strB (z ++ [125]))]

set_option maxRecDepth 100000 in
set_option maxHeartbeats 1000000 in
/-- 'newLayout'. -/
theorem layout_any (o s c z : List UInt8) (ho : o.length ≤ 140737488351232) (hs : s.length ≤ 140737488351232) (hc : c.length ≤ 140737488351232) (hz : z.length ≤ 140737488351232) (w : World) :
    Calls Yba.prog 5 #[.string (strB o), .string (strB s), .string (strB c), .string (strB z)] w fun e w' => e = .returned (.agg (layout o s c z)) ∧ Below w.heap.size w w' := by
  have ho' : (strB o).size ≤ 140737488351232 := by rw [strB_size]; exact ho
  have hs' : (strB s).size ≤ 140737488351232 := by rw [strB_size]; exact hs
  have hc' : (strB c).size ≤ 140737488351232 := by rw [strB_size]; exact hc
  have hz' : (strB z).size ≤ 140737488351232 := by rw [strB_size]; exact hz
  go_enter Yba.func5, Yba.ntmps5
  go_wp2_with fail
  refine (lam_s _ (123 :: o) (ByteArray.mk #[98, 105, 100]) kBid c _ _ ?_ rfl ?_ (by rw [strB_size]; simp; omega) (by rw [strB_size]; decide) (by rw [strB_size]; omega)).mono ?_
  · rw [lit1, strB_append]; rfl
  · go_simp
  rintro e w' ⟨rfl, rfl⟩
  go_wp2_with fail
  refine (lam_s _ (44 :: s) (ByteArray.mk #[115, 116, 97, 116, 117, 115]) kStatus c _ _ ?_ rfl ?_ (by rw [strB_size]; simp; omega) (by rw [strB_size]; decide) (by rw [strB_size]; omega)).mono ?_
  · rw [lit1, strB_append]; rfl
  · go_simp
  rintro e w' ⟨rfl, rfl⟩
  go_wp2_with fail
  refine (lam_s _ (44 :: s) (ByteArray.mk #[114, 101, 97, 115, 111, 110]) kReason c _ _ ?_ rfl ?_ (by rw [strB_size]; simp; omega) (by rw [strB_size]; decide) (by rw [strB_size]; omega)).mono ?_
  · rw [lit1, strB_append]; rfl
  · go_simp
  rintro e w' ⟨rfl, rfl⟩
  go_wp2_with fail
  refine (lam_s _ (44 :: s) (ByteArray.mk #[97, 119, 97, 114, 100]) kAward c _ _ ?_ rfl ?_ (by rw [strB_size]; simp; omega) (by rw [strB_size]; decide) (by rw [strB_size]; omega)).mono ?_
  · rw [lit1, strB_append]; rfl
  · go_simp
  rintro e w' ⟨rfl, rfl⟩
  go_wp2_with fail
  refine (lam_s _ (44 :: s) (ByteArray.mk #[112, 114, 105, 99, 101]) kPrice c _ _ ?_ rfl ?_ (by rw [strB_size]; simp; omega) (by rw [strB_size]; decide) (by rw [strB_size]; omega)).mono ?_
  · rw [lit1, strB_append]; rfl
  · go_simp
  rintro e w' ⟨rfl, rfl⟩
  go_wp2_with fail
  refine (lam_s _ (44 :: s) (ByteArray.mk #[112, 97, 121, 109, 101, 110, 116]) kPayment c _ _ ?_ rfl ?_ (by rw [strB_size]; simp; omega) (by rw [strB_size]; decide) (by rw [strB_size]; omega)).mono ?_
  · rw [lit1, strB_append]; rfl
  · go_simp
  rintro e w' ⟨rfl, rfl⟩
  go_wp2
  refine bodyPost_ret (results_cell_row rfl _ _ _ 23 _ (0, 0) _ rfl (heap_top _ _ _ (by simp)) Yba.underlying23 rfl info23) rfl ⟨?_, ((Below.refl _ _).alloc (Nat.le_refl _) _).alloc (by simp) _⟩
  rw [lit1 125, strB_append]
  rfl
end Go.Proofs.Ybulkbdvq.W
