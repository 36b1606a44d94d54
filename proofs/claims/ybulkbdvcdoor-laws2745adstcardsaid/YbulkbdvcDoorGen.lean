import Derived.Test.YbulkbdvcDoorItoa
namespace Go.Proofs.YbulkbdvcDoor.W
open Go.RowKit
open Go.Proofs.YbulkbdvcDoor.P Go.Proofs.YbulkbdvcDoor.B

/-- A slice of bytes that came in: its elements, each in its cell, all in old memory. -/
def Row8 (w : World) (a : Option Addr) (len : Nat) : Prop :=
  len = 0 ∨ ∃ b o, a = some ⟨b, o, none⟩ ∧ b < w.heap.size ∧ ∀ i, i < len → ∃ z : Int, 0 ≤ z ∧ z ≤ 255 ∧ w.cell? ⟨b, o + i, none⟩ = some (.int .u8 z)

theorem conv_any {w : World} {base : Nat} {v : Value} {n : Nat} {l : List UInt8} (h : w.ownsRow base 5 1 v n (bytesV l)) (hl : l.length = n) :
    (convert 22 9 v).run Ybad.prog w = .ok (.string (strB l)) w := by
  rcases h.2 with ⟨rfl, hn⟩ | ⟨g, cap, cur, rfl, _⟩
  · have : l = [] := List.eq_nil_of_length_eq_zero (by omega)
    subst this
    exact run_convert_bytes_nil w 22 5 Ybad.underlying22 Ybad.underlying5 0 0 9 Ybad.underlying9
  · exact own_conv h hl Ybad.underlying22 Ybad.underlying5 Ybad.underlying9

theorem angle_str (l : List UInt8) : (ByteArray.mk #[60]) ++ strB l ++ (ByteArray.mk #[62]) = strB (60 :: (l ++ [62])) := by
  show strB [60] ++ strB l ++ strB [62] = _
  rw [strB_append, strB_append]
  rfl

theorem one_bytes (l : List UInt8) : ∀ u ∈ bytesV l, u.oneCell' = true := by
  intro u hu
  obtain ⟨c, _, rfl⟩ := List.mem_map.1 hu
  rfl

theorem all_snoc {l : List UInt8} {p : UInt8 → Prop} {c : UInt8} (h : ∀ d ∈ l, p d) (hc : p c) : ∀ d ∈ l ++ [c], p d := by
  intro d hd
  rcases List.mem_append.1 hd with h1 | h1
  · exact h d h1
  · simp at h1; subst h1; exact hc

/-- A byte appended to the row that the call owns: what the round keeps. -/
theorem grow_step {w wr w1 : World} {v v' : Value} {l : List UInt8} {c : UInt8} (ho : wr.ownsRow w.heap.size 5 1 v l.length (bytesV l)) (hb : Below w.heap.size w wr) (hsz : w.heap.size ≤ wr.heap.size)
    (ho1 : w1.ownsRow w.heap.size 5 1 v' (l.length + 1) (bytesV l ++ bytesV [c])) (hg : (wr.alloc (.cells #[.int .u8 (c.toNat : Int)] 5)).grownBy w1 v.ownBlock) :
    w1.ownsRow w.heap.size 5 1 v' (l ++ [c]).length (bytesV (l ++ [c])) ∧ Below w.heap.size w w1 := by
  refine ⟨?_, (hb.alloc hsz _).grown hg (by simp; omega) ?_⟩
  · have e : bytesV (l ++ [c]) = bytesV l ++ bytesV [c] := by simp [bytesV]
    rw [e, List.length_append]
    exact ho1
  · intro k hk
    rcases ho.2 with ⟨rfl, _⟩ | ⟨g, cap, cur, rfl, hgb, _⟩
    · simp [Value.ownBlock] at hk
    · simp [Value.ownBlock] at hk; omega

set_option maxHeartbeats 400000 in
theorem gen_angle (a : Option Addr) (len cap : Nat) (hlen : len ≤ 1024) (w : World) (hrow : Row8 w a len) :
    Calls Ybad.prog 5 #[.slice a len cap, .bool true] w fun e w' => ∃ l, e = .returned (.tuple #[.string (strB (60 :: (l ++ [62]))), .string (strB l)]) ∧ (∀ c ∈ l, c ≠ 62) ∧ l.length ≤ 1024 ∧ Below w.heap.size w w' := by
  obtain ⟨i0, hi, hz0, hz1, hz2⟩ := info_parts info5
  go_enter Ybad.func5, Ybad.ntmps5
  go_wp2
  generalize htab : (ByteArray.mk #[65, 66, 90, 48, 57, 43, 45, 44, 58]) = tab at *
  have hts : tab.size = 9 := by rw [← htab]; rfl
  have htb : ∀ k (h : k < tab.size), tab[k] ≠ 62 := by subst htab; decide
  have HT := hide htb
  have HTS := hide hts
  have hts1 : tab.size ≤ 9 := by omega
  have hts2 : 9 ≤ tab.size := by omega
  clear htab htb hts
  go_loopw [7, 8] (fun v i wr => ∃ l : List UInt8, l.length ≤ len ∧ i = .int .i64 l.length ∧ wr.ownsRow w.heap.size 5 1 v l.length (bytesV l) ∧ (∀ c ∈ l, c ≠ 62) ∧ Below w.heap.size w wr) (fun _ i _ => len - (intOf i).toNat)
  case atStart => exact ⟨[], Nat.zero_le _, rfl, World.ownsRow_nil _ _ _ _, by simp, Below.refl _ _⟩
  case round =>
    obtain ⟨l, hl, rfl, ho, hall, hb⟩ := hrel
    have hsz := hb.size
    have HA := hide hall
    have HB := hide hb
    by_cases hlt : l.length < len
    · rcases hrow with h0 | ⟨b, o, rfl, hbs, hcl⟩
      · omega
      · obtain ⟨z, hz1', hz2', hcell⟩ := hcl l.length hlt
        rw [← hb.cell (p := ⟨b, o + l.length, none⟩) hbs] at hcell
        have hm1 := Int.emod_nonneg z (show (tab.size : Int) ≠ 0 by omega)
        have hm2 := Int.emod_lt_of_pos z (show 0 < (tab.size : Int) by omega)
        have hk : (z % (tab.size : Int)).toNat < tab.size := by omega
        have HO := hide ho
        clear hcl hall hb ho
        go_wp2_with (at_builtin; refine wpList_append_own _ rfl _ _ 22 rfl w.heap.size 5 i0 (.int .u8 0) 1 1 Ybad.underlying22 hi hz0 hz1 hz2 rfl (by decide) _ l.length (bytesV l) rfl (HO.out.alloc _) ⟨wr.heap.size, 0, none⟩ 1 1 (bytesV [tab[(z % (tab.size : Int)).toNat]]) rfl rfl ?c1 ?c2 ?c3 ?c4 ?c5 ?_)
        case c1 => exact cell_one_new _ _ _
        case c2 => exact one_bytes _
        case c3 => unfold maxLen; omega
        case c4 => omega
        case c5 => simp; omega
        intro v' w1 ho1 hg1 _
        have R := grow_step HO.out HB.out hsz ho1 hg1
        have HR := hide R
        clear R ho1 hg1
        go_wp2
        go_roundw
        case rel => exact ⟨l ++ [tab[(z % (tab.size : Int)).toNat]], by simp; omega, by simp, HR.out.1, all_snoc HA.out (HT.out _ hk), HR.out.2⟩
        case measure => simp [intOf]; omega
    · have hcv := conv_any ho rfl
      have hsl : (strB l).size ≤ 1024 := by rw [strB_size]; omega
      clear ho hall hb
      go_wp2
      go_ret2
      exact ⟨l, by simp; exact angle_str l, HA.out, by omega, HB.out⟩

def lenV : Value → Nat | .slice _ n _ => n | _ => 0
theorem lenV_of {w : World} {base : Nat} {e : TypeId} {v : Value} {n : Nat} {xs : List Value} (h : w.ownsRow base e 1 v n xs) : lenV v = n := by
  rcases h.2 with ⟨rfl, hn⟩ | ⟨g, cap, cur, rfl, _⟩
  · exact hn.symm
  · rfl

set_option maxHeartbeats 600000 in
theorem gen_plain (a : Option Addr) (len cap : Nat) (hlen : len ≤ 1024) (w : World) (hrow : Row8 w a len) :
    Calls Ybad.prog 5 #[.slice a len cap, .bool false] w fun e w' => ∃ l, e = .returned (.tuple #[.string (strB l), .string (strB l)]) ∧ (∀ c ∈ l, 65 ≤ c.toNat ∧ c.toNat ≤ 90) ∧ 3 ≤ l.length ∧ l.length ≤ 1024 ∧ Below w.heap.size w w' := by
  obtain ⟨i0, hi, hz0, hz1, hz2⟩ := info_parts info5
  go_enter Ybad.func5, Ybad.ntmps5
  go_wp2
  generalize htab : (ByteArray.mk #[65, 66, 67, 68, 69, 70, 71, 72, 73, 74, 75, 76, 77, 78, 79, 80, 81, 82, 83, 84, 85, 86, 87, 88, 89, 90]) = tab at *
  have hts : tab.size = 26 := by rw [← htab]; rfl
  have htb : ∀ k (h : k < tab.size), 65 ≤ tab[k].toNat ∧ tab[k].toNat ≤ 90 := by subst htab; decide
  have HT := hide htb
  have HTS := hide hts
  have hts1 : tab.size ≤ 26 := by omega
  have hts2 : 26 ≤ tab.size := by omega
  clear htab htb hts
  go_loopw [11, 12] (fun v i wr => ∃ l : List UInt8, l.length ≤ len ∧ i = .int .i64 l.length ∧ wr.ownsRow w.heap.size 5 1 v l.length (bytesV l) ∧ (∀ c ∈ l, 65 ≤ c.toNat ∧ c.toNat ≤ 90) ∧ Below w.heap.size w wr) (fun _ i _ => len - (intOf i).toNat)
  case atStart => exact ⟨[], Nat.zero_le _, rfl, World.ownsRow_nil _ _ _ _, by simp, Below.refl _ _⟩
  case round =>
    obtain ⟨l, hl, rfl, ho, hall, hb⟩ := hrel
    have hsz := hb.size
    have HA := hide hall
    have HB := hide hb
    by_cases hlt : l.length < len
    · rcases hrow with h0 | ⟨b, o, rfl, hbs, hcl⟩
      · omega
      · obtain ⟨z, hz1', hz2', hcell⟩ := hcl l.length hlt
        rw [← hb.cell (p := ⟨b, o + l.length, none⟩) hbs] at hcell
        have hm1 := Int.emod_nonneg z (show (tab.size : Int) ≠ 0 by omega)
        have hm2 := Int.emod_lt_of_pos z (show 0 < (tab.size : Int) by omega)
        have hk : (z % (tab.size : Int)).toNat < tab.size := by omega
        have HO := hide ho
        clear hcl hall hb ho
        go_wp2_with (at_builtin; refine wpList_append_own _ rfl _ _ 22 rfl w.heap.size 5 i0 (.int .u8 0) 1 1 Ybad.underlying22 hi hz0 hz1 hz2 rfl (by decide) _ l.length (bytesV l) rfl (HO.out.alloc _) ⟨wr.heap.size, 0, none⟩ 1 1 (bytesV [tab[(z % (tab.size : Int)).toNat]]) rfl rfl ?c1 ?c2 ?c3 ?c4 ?c5 ?_)
        case c1 => exact cell_one_new _ _ _
        case c2 => exact one_bytes _
        case c3 => unfold maxLen; omega
        case c4 => omega
        case c5 => simp; omega
        intro v' w1 ho1 hg1 _
        have R := grow_step HO.out HB.out hsz ho1 hg1
        have HR := hide R
        clear R ho1 hg1
        go_wp2
        go_roundw
        case rel => exact ⟨l ++ [tab[(z % (tab.size : Int)).toNat]], by simp; omega, by simp, HR.out.1, all_snoc HA.out (HT.out _ hk), HR.out.2⟩
        case measure => simp [intOf]; omega
    · have HO := hide ho
      clear hall hb ho
      go_wp2
      go_loopw [11] (fun v wr => ∃ l : List UInt8, l.length ≤ 1024 ∧ wr.ownsRow w.heap.size 5 1 v l.length (bytesV l) ∧ (∀ c ∈ l, 65 ≤ c.toNat ∧ c.toNat ≤ 90) ∧ Below w.heap.size w wr) (fun v _ => 3 - lenV v)
      case atStart => exact ⟨l, by omega, HO.out, HA.out, HB.out⟩
      case round =>
        clear HO HA HB hsz hlt hl
        obtain ⟨l, hl, ho, hall, hb⟩ := hrel
        have hsz := hb.size
        have HA := hide hall
        have HB := hide hb
        have HO := hide ho
        have hlv := lenV_of ho
        have HLV := hide hlv
        by_cases hlt : l.length < 3
        · rcases ho.2 with ⟨rfl, hl0⟩ | ⟨g, cp, cur, rfl, _⟩
          all_goals
            try clear hl0
            clear hall hb ho hlv
            go_wp2_with (at_builtin; refine wpList_append_own _ rfl _ _ 22 rfl w.heap.size 5 i0 (.int .u8 0) 1 1 Ybad.underlying22 hi hz0 hz1 hz2 rfl (by decide) _ l.length (bytesV l) rfl (HO.out.alloc _) ⟨wr.heap.size, 0, none⟩ 1 1 (bytesV [88]) rfl rfl (cell_one_new _ _ _) (one_bytes _) (by unfold maxLen; omega) (by omega) (by simp; omega) ?_)
            intro v' w1 ho1 hg1 _
            have R := grow_step (c := 88) HO.out HB.out hsz ho1 hg1
            have hlv1 := lenV_of R.1
            have HR := hide R
            have HLV1 := hide hlv1
            clear R ho1 hg1 hlv1
            go_wp2
            go_roundw
            case rel => exact ⟨l ++ [88], by simp; omega, HR.out.1, all_snoc HA.out (by decide), HR.out.2⟩
            case measure => rw [HLV1.out, HLV.out]; simp; omega
        · have hcv := conv_any ho rfl
          rcases ho.2 with ⟨rfl, hl0⟩ | ⟨g, cp, cur, rfl, _⟩
          · omega
          · clear hall hb ho hlv
            go_wp2
            go_ret2
            exact ⟨l, rfl, HA.out, by omega, hl, HB.out⟩
end Go.Proofs.YbulkbdvcDoor.W
