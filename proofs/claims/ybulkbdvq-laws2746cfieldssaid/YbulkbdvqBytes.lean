/-
  Rows of bytes that the call itself makes: the facts that the walks want, over any program.
-/
import Derived.WalkKit
import Derived.Laws.BytesArg
namespace Go.Proofs.Ybulkbdvq.B
open Go.RowKit

/-- The cells of a list of bytes. -/
def bytesV (l : List UInt8) : List Value := l.map fun c => Value.int .u8 (c.toNat : Int)

theorem bytesV_length (l : List UInt8) : (bytesV l).length = l.length := by simp [bytesV]

theorem bytesV_at (l : List UInt8) (j : Nat) (h : j < l.length) : (bytesV l)[j]? = some (.int .u8 (l[j].toNat : Int)) := by
  simp [bytesV, h]

theorem bytesV_set (l : List UInt8) (j : Nat) (c : UInt8) : (bytesV l).set j (.int .u8 (c.toNat : Int)) = bytesV (l.set j c) := by
  simp [bytesV, List.map_set]

/-- The string of a list of bytes. -/
def strB (l : List UInt8) : ByteArray := ⟨l.toArray⟩

theorem strB_list (l : List UInt8) : (strB l).data.toList = l := by simp [strB]
theorem strB_size (l : List UInt8) : (strB l).size = l.length := by simp [strB, ByteArray.size]

variable {P : Program} {w : World} {base : Nat} {e : TypeId} {g n cap : Nat} {l : List UInt8}

theorem own_cell (h : w.ownsRow base e 1 (.slice (some ⟨g, 0, none⟩) n cap) n (bytesV l)) (j : Nat) (hj : j < l.length) (hn : j < n) :
    w.cell? ⟨g, j, none⟩ = some (.int .u8 (l[j].toNat : Int)) := by
  rw [h.cellAt j (by omega), bytesV_at l j hj]

theorem own_conv (h : w.ownsRow base e 1 (.slice (some ⟨g, 0, none⟩) n cap) n (bytesV l)) (hl : l.length = n) {src dst : TypeId} (hs : P.underlying src = some (.slice e))
    (he : P.underlying e = some (.int .u8)) (hd : P.underlying dst = some .string) :
    (convert src dst (.slice (some ⟨g, 0, none⟩) n cap)).run P w = .ok (.string (strB l)) w := by
  have key := run_convert_bytes_arg (P := P) w src e hs he g 0 n cap (l.map fun c => (c.toNat : Int)) (by simpa using hl)
    (fun i hi => by
      rw [Nat.zero_add, own_cell h i (by omega) hi]
      simp [List.getD, show i < l.length by omega]) dst hd
  rw [key]
  have e1 : strOfNums (l.map fun c => (c.toNat : Int)) = strB l := by
    unfold strOfNums strB
    congr 2
    rw [List.map_map]
    conv => rhs; rw [← List.map_id l]
    apply List.map_congr_left
    intro c _
    simp
  rw [e1]

theorem strB_append (a b : List UInt8) : strB a ++ strB b = strB (a ++ b) := by
  apply ByteArray.ext
  simp [strB]

theorem strB_get (l : List UInt8) (k : Nat) (h : k < (strB l).size) (h' : k < l.length) : (strB l)[k]'h = l[k]'h' := by
  simp [strB, ByteArray.getElem_eq_getElem_data]

theorem strB_drop (l : List UInt8) (k n : Nat) (hn : n = l.length) : (strB l).extract k n = strB (l.drop k) := by
  subst hn
  apply ByteArray.ext
  rw [ByteArray.data_extract]
  apply Array.ext'
  simp [strB, List.take_of_length_le]

theorem strB_take (l : List UInt8) (k n : Nat) : (strB l).extract k n = strB ((l.take n).drop k) := by
  apply ByteArray.ext
  rw [ByteArray.data_extract]
  apply Array.ext'
  simp [strB, List.drop_take]

theorem hide {p : Prop} (h : p) : Hid p := h

theorem setCell_twice (w : World) (a : Addr) (u v : Value) : (w.setCell a u).setCell a v = w.setCell a v := by
  unfold World.setCell
  congr 1
  apply Array.ext_getElem?
  intro k
  simp only [Array.getElem?_modify]
  by_cases hk : a.block = k
  · simp only [hk, if_true, Option.map_map]
    congr 1
    funext o
    cases o with
    | cells c t f => cases h : a.spot <;> simp
    | _ => rfl
  · simp [hk]

end Go.Proofs.Ybulkbdvq.B
