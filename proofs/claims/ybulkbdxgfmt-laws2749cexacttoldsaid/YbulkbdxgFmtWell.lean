/-
  The law of well formed texts.
-/
import Derived.Test.YbulkbdxgFmtBuild
import Derived.Test.YbulkbdxgFmtEq
import Derived.Deep.OwnRows
import Derived.Laws.IdiomStrings
namespace Go.Proofs.YbulkbdxgFmt.W
open Go.RowKit
open Go.Proofs.YbulkbdxgFmt.P

theorem info3 : (Ybaf.prog.info? 3).map (fun i => (i.zero, i.size, i.bytes)) = some (some (.int .i64 0), 1, 8) := by kernel_rfl
theorem info5 : (Ybaf.prog.info? 5).map (fun i => (i.zero, i.size, i.bytes)) = some (some (.int .u8 0), 1, 1) := by kernel_rfl

/-- A row of m cells, the first i of them written. -/
def rowV (g : Nat → Value) (z : Value) (i m : Nat) : Array Value := (Array.range m).map fun j => if j < i then g j else z

theorem rowV_zero (g : Nat → Value) (z : Value) (m : Nat) : madeCells #[z] m = rowV g z 0 m := by
  unfold madeCells rowV
  congr 1
  funext j
  simp [Nat.mod_one]
theorem rowV_get (g : Nat → Value) (z : Value) (i m j : Nat) (hj : j < m) : (rowV g z i m)[j]? = some (if j < i then g j else z) := by
  simp [rowV, hj]
theorem rowV_set (g : Nat → Value) (z : Value) (i m : Nat) : (rowV g z i m).setIfInBounds i (g i) = rowV g z (i + 1) m := by
  apply Array.ext_getElem?
  intro j
  rw [Array.getElem?_setIfInBounds]
  by_cases hj : j < m
  · rw [rowV_get _ _ _ _ _ hj, rowV_get _ _ _ _ _ hj]
    by_cases e : i = j
    · subst e
      have : i < (rowV g z i m).size := by simpa [rowV] using hj
      simp [this]
    · by_cases h1 : j < i
      · have : j < i + 1 := by omega
        simp [e, h1, this]
      · have : ¬ j < i + 1 := by omega
        simp [e, h1, this]
  · have e1 : (rowV g z i m)[j]? = none := Array.getElem?_eq_none (by simp [rowV]; omega)
    have e2 : (rowV g z (i + 1) m)[j]? = none := Array.getElem?_eq_none (by simp [rowV]; omega)
    rw [e1, e2]
    have : ¬ (i < (rowV g z i m).size ∧ i = j) := by rintro ⟨h1, rfl⟩; simp [rowV] at h1; omega
    by_cases e : i = j
    · subst e
      have : ¬ i < (rowV g z i m).size := by simp [rowV]; omega
      simp [this]
    · simp [e]

/-- Where the law's loop stands. -/
structure WI (w : World) (W d m : Nat) (g h : Nat → Value) (i : Nat) (wr : World) : Prop where
  sp : wr.heap[w.heap.size]? = some (.cells (spaceC W d) 24 (0, 0))
  vals : wr.heap[w.heap.size + 1]? = some (.cells (rowV g (.int .i64 0) i m) 3 (0, 0))
  buf : wr.heap[w.heap.size + 1 + 1]? = some (.cells (rowV h (.int .u8 0) i m) 5 (0, 0))
  bel : Below w.heap.size w wr

theorem WI.step {w : World} {W d m : Nat} {g h : Nat → Value} {i : Nat} {wr : World} (hI : WI w W d m g h i wr) :
    WI w W d m g h (i + 1) ((wr.setCell ⟨w.heap.size + 1, i, none⟩ (g i)).setCell ⟨w.heap.size + 1 + 1, i, none⟩ (h i)) := by
  have e1 := setCell_eq_setRow wr (w.heap.size + 1) i _ 3 (0, 0) (g i) hI.vals
  rw [e1, rowV_set]
  have hb : (wr.setRow (w.heap.size + 1) (rowV g (.int .i64 0) (i + 1) m)).heap[w.heap.size + 1 + 1]? = some (.cells (rowV h (.int .u8 0) i m) 5 (0, 0)) := (setRow_other _ _ _ _ (by omega)).trans hI.buf
  rw [setCell_eq_setRow _ (w.heap.size + 1 + 1) i _ 5 (0, 0) (h i) hb, rowV_set]
  exact ⟨(setRow_other _ _ _ _ (by omega)).trans ((setRow_other _ _ _ _ (by omega)).trans hI.sp), (setRow_other _ _ _ _ (by omega)).trans (setRow_heap _ _ _ _ 3 (0, 0) hI.vals),
    setRow_heap _ _ _ _ 5 (0, 0) hb, below_setRow (below_setRow hI.bel (by omega) _) (by omega) _⟩

theorem byteN_get (T : ByteArray) (k : Nat) (h : k < T.size) : (T[k]'h).toNat = byteN T k := by
  unfold byteN
  have h' : k < T.data.toList.length := by simpa using h
  rw [List.getD_eq_getElem?_getD, List.getElem?_eq_getElem h']
  rfl

theorem WI.below {w : World} {W d m : Nat} {g h : Nat → Value} {i : Nat} {wr wr' : World} (hI : WI w W d m g h i wr) (hb : Below wr.heap.size wr wr') : WI w W d m g h i wr' :=
  ⟨(hb.block _ (Array.getElem?_eq_some_iff.1 hI.sp).1).trans hI.sp, (hb.block _ (Array.getElem?_eq_some_iff.1 hI.vals).1).trans hI.vals, (hb.block _ (Array.getElem?_eq_some_iff.1 hI.buf).1).trans hI.buf, hI.bel.trans (hb.mono hI.bel.size)⟩

theorem Parse_s (T : ByteArray) (n d W : Nat) (B : Int) (vs : List Nat) (hW : W = n * d) (hvs : vs = (List.range n).map fun k => dval (byteN T k)) (hB : IsBase d B) (hd : 1 ≤ d) (hd4 : d ≤ 4) (hn : 1 ≤ n) (hW2 : W ≤ 256) (hT : T.size = n) (hall : ∀ k, k < n → (dval (byteN T k) : Int) < B) (w : World) :
    Calls Ybaf.prog 5 #[.agg (spaceC W d), .string T] w fun e w' => e = .returned (.tuple #[.agg (idC (num W d vs n)), .nilIface]) ∧ Below w.heap.size w w' := by
  subst hW hvs
  exact Parse_ok T n d B hB hd hd4 hn hW2 hT hall w

theorem build_s (R n d W : Nat) (vs : List Nat) (N : Nat) (hW : W = n * d) (hN : num W d vs n = N) (hd : 1 ≤ d) (hd4 : d ≤ 4) (hW2 : W ≤ 256) (hn : vs.length = n) (hv : ∀ k, k < n → vs.getD k 0 < 2 ^ d) (w : World) (hR : R < w.heap.size)
    (hc : ∀ k, k < n → w.cell? ⟨R, k, none⟩ = some (.int .i64 (vs.getD k 0 : Nat))) :
    Calls Ybaf.prog 7 #[.int .i64 W, .int .i64 d, .slice (some ⟨R, 0, none⟩) n n] w fun e w' => e = .returned (.agg #[.int .u64 (wd N 0), .int .u64 (wd N 1), .int .u64 (wd N 2), .int .u64 (wd N 3)]) ∧ Below w.heap.size w w' := by
  subst hW hN
  exact build_any R n d vs hd hd4 hW2 hn hv w hR hc

/-- A slice of bytes that came in. -/
def RowF (w : World) (a : Option Addr) (len : Nat) (f : Nat → Nat) : Prop :=
  len = 0 ∨ ∃ b o, a = some ⟨b, o, none⟩ ∧ b < w.heap.size ∧ ∀ i, i < len → f i < 256 ∧ w.cell? ⟨b, o + i, none⟩ = some (.int .u8 (f i))

def valF (len : Nat) (f : Nat → Nat) (b i : Nat) : Nat := if len = 0 then i % b else f (i % len) % b

set_option maxRecDepth 100000 in
set_option maxHeartbeats 1000000 in
theorem well_walk (a nn q r m d W : Nat) (B : Int) (hB : IsBase d B) (ad : Option Addr) (len cap : Nat) (up : Bool) (ha : a < 256) (hnn : nn < 65536) (hsel : a % 4 + 1 = d) (hq : 256 / d = q) (hr : nn % q = r) (hm : m = 1 + r) (hW : W = m * d) (hlen : len ≤ 4096) (f : Nat → Nat) (w : World) (hrow : RowF w ad len f) :
    Calls Ybaf.prog 4 #[.int .u8 a, .int .u16 nn, .slice ad len cap, .bool up] w fun e w' => e = .returned (.bool true) ∧ Below w.heap.size w w' := by
  have hd1 : 1 ≤ d := by omega
  have hd4 : d ≤ 4 := by omega
  have hq1 : 64 ≤ q := by
    have : d = 1 ∨ d = 2 ∨ d = 3 ∨ d = 4 := by omega
    rcases this with rfl | rfl | rfl | rfl <;> omega
  have hrq : r < q := by rw [← hr]; exact Nat.mod_lt _ (by omega)
  have hmq : m ≤ q := by omega
  have hW256 : W ≤ 256 := by
    rw [hW]
    exact Nat.le_trans (Nat.mul_le_mul_right d hmq) (by rw [← hq]; exact Nat.div_mul_le_self _ _)
  have f1 : (a : Int) % 4 + 1 = d := by omega
  have f2 : (256 : Int) / d = q := by rw [← hq]; simp
  have f3 : (nn : Int) % q = r := by rw [← hr]; simp
  have f4 : 1 + (r : Int) = m := by omega
  have f5 : (d : Int) * m = W := by rw [hW, Nat.mul_comm]; simp
  have f6 : (W : Int) / d = m := by
    rw [← f5]
    exact Int.mul_ediv_cancel_left _ (by omega)
  have f7 : (2 : Int) ^ d = B := by
    rcases hB with ⟨h1, rfl⟩ | ⟨h1, rfl⟩ | ⟨h1, rfl⟩ | ⟨h1, rfl⟩
    · have : d = 1 := by omega
      subst this; rfl
    · have : d = 2 := by omega
      subst this; rfl
    · have : d = 3 := by omega
      subst this; rfl
    · have : d = 4 := by omega
      subst this; rfl
  obtain ⟨b, rfl⟩ : ∃ b : Nat, B = b := ⟨B.toNat, by rcases hB with ⟨_, rfl⟩ | ⟨_, rfl⟩ | ⟨_, rfl⟩ | ⟨_, rfl⟩ <;> rfl⟩
  have hB2 : 2 ≤ b := by rcases hB with ⟨_, h⟩ | ⟨_, h⟩ | ⟨_, h⟩ | ⟨_, h⟩ <;> omega
  have hB16 : b ≤ 16 := by rcases hB with ⟨_, h⟩ | ⟨_, h⟩ | ⟨_, h⟩ | ⟨_, h⟩ <;> omega
  have hm1 : 1 ≤ m := by omega
  have hm256 : m ≤ 256 := by rw [hW] at hW256; exact Nat.le_trans (Nat.le_mul_of_pos_right m hd1) hW256
  have q256 : q ≤ 256 := by rw [← hq]; exact Nat.div_le_self _ _
  have HW := hide hW
  have HB := hide hB
  clear hsel hq hr hm hW hB hmq
  have mk1 : ∀ wx, Sem.run Ybaf.prog (Instr.makeSlice 34 (.int .i64 m) (.int .i64 m)) wx = .ok (.slice (some ⟨wx.heap.size, 0, none⟩) m m) (wx.alloc (.cells (madeCells #[.int .i64 0] m) 3)) :=
    fun wx => run_make_row' 34 3 _ 8 Ybaf.underlying34 info3 rfl .i64 .i64 m (by omega) (by omega) wx
  have mk2 : ∀ wx, Sem.run Ybaf.prog (Instr.makeSlice 38 (.int .i64 m) (.int .i64 m)) wx = .ok (.slice (some ⟨wx.heap.size, 0, none⟩) m m) (wx.alloc (.cells (madeCells #[.int .u8 0] m) 5)) :=
    fun wx => run_make_row' 38 5 _ 1 Ybaf.underlying38 info5 rfl .i64 .i64 m (by omega) (by omega) wx
  go_enter Ybaf.func4, Ybaf.ntmps4
  go_wp2_with fail
  clear mk1 mk2
  generalize htl : (ByteArray.mk #[48, 49, 50, 51, 52, 53, 54, 55, 56, 57, 97, 98, 99, 100, 101, 102]) = tl at *
  generalize htu : (ByteArray.mk #[48, 49, 50, 51, 52, 53, 54, 55, 56, 57, 65, 66, 67, 68, 69, 70]) = tu at *
  have tl1 : 16 ≤ tl.size := by rw [← htl]; decide
  have tu1 : 16 ≤ tu.size := by rw [← htu]; decide
  have tlv : Hid (∀ k, k < 16 → dval (byteN tl k) = k) := by subst htl; unfold Hid; decide
  have tuv : Hid (∀ k, k < 16 → dval (byteN tu k) = k) := by subst htu; unfold Hid; decide
  clear htl htu
  obtain ⟨tb, htb⟩ : ∃ tb : Nat → Nat, tb = fun i => byteN (if up then tu else tl) (valF len f b i) := ⟨_, rfl⟩
  have P0 : WI w W d m (fun i => .int .i64 (valF len f b i : Nat)) (fun i => .int .u8 (tb i : Nat)) 0 (((w.alloc (.cells #[.int .i64 W, .int .i64 d] 24)).alloc (.cells (madeCells #[.int .i64 0] m) 3)).alloc (.cells (madeCells #[.int .u8 0] m) 5)) := by
    have s1 : (w.alloc (.cells #[.int .i64 W, .int .i64 d] 24)).heap.size = w.heap.size + 1 := by simp
    have s2 : ((w.alloc (.cells #[.int .i64 W, .int .i64 d] 24)).alloc (.cells (madeCells #[.int .i64 0] m) 3)).heap.size = w.heap.size + 1 + 1 := by simp
    refine ⟨?_, ?_, ?_, ((((Below.refl _ _).alloc (Nat.le_refl _) _).alloc (by simp) _).alloc (by simp; omega) _)⟩
    · rw [heap_past _ _ _ (by omega), heap_past _ _ _ (by omega), heap_top _ _ _ rfl]; rfl
    · rw [heap_past _ _ _ (by omega), heap_top _ _ _ (by omega), rowV_zero]
    · rw [heap_top _ _ _ (by omega), rowV_zero]
  have HP := hide P0
  have HT := hide htb
  clear P0 htb
  go_loopw [18] (fun i wr => ∃ k : Nat, k ≤ m ∧ i = .int .i64 k ∧ WI w W d m (fun i => .int .i64 (valF len f b i : Nat)) (fun i => .int .u8 (tb i : Nat)) k wr) (fun i _ => m - (intOf i).toNat)
  case atStart => exact ⟨0, Nat.zero_le _, rfl, HP.out⟩
  case round =>
    obtain ⟨i, hi, rfl, hI⟩ := hrel
    clear HP
    have HP := hide hI
    by_cases hlt : i < m
    · have cv : wr.cell? ⟨w.heap.size + 1, i, none⟩ = some (.int .i64 0) := (row_cell hI.vals).trans ((rowV_get _ _ _ _ _ hlt).trans (by simp))
      have cb : wr.cell? ⟨w.heap.size + 1 + 1, i, none⟩ = some (.int .u8 0) := (row_cell hI.buf).trans ((rowV_get _ _ _ _ _ hlt).trans (by simp))
      have fv : wr.frozen? ⟨w.heap.size + 1, i, none⟩ = false := row_free hI.vals
      have fb : wr.frozen? ⟨w.heap.size + 1 + 1, i, none⟩ = false := row_free hI.buf
      obtain ⟨v, hv⟩ : ∃ v, valF len f b i = v := ⟨_, rfl⟩
      have hvb : v < b := by
        rw [← hv]; unfold valF
        split <;> exact Nat.mod_lt _ (by omega)
      have VL : v < tl.size := by omega
      have VU : v < tu.size := by omega
      have HS := HP.out.step
      rw [hv] at HS
      have hti : tb i = byteN (if up then tu else tl) v := by rw [HT.out]; show byteN _ (valF len f b i) = _; rw [hv]
      by_cases h0 : len = 0
      · have g1 : (i : Int) % b = v := by rw [← hv]; unfold valF; simp [h0]
        have HS2 := hide HS
        have X1 := hide hti
        clear HS hti hv hI
        cases up
        · have X2 : Hid (tb i = byteN tl v) := X1.out
          go_wp2_with fail
          go_roundw
          case rel => exact ⟨i + 1, hlt, by simp, by rw [byteN_get tl v VL, ← X2.out]; exact HS2.out⟩
          case measure => simp [intOf]; omega
        · have X2 : Hid (tb i = byteN tu v) := X1.out
          go_wp2_with fail
          go_roundw
          case rel => exact ⟨i + 1, hlt, by simp, by rw [byteN_get tu v VU, ← X2.out]; exact HS2.out⟩
          case measure => simp [intOf]; omega
      · rcases hrow with hz | ⟨b0, o, rfl, hb0, hcl⟩
        · exact absurd hz h0
        · have hj := Nat.mod_lt i (Nat.pos_of_ne_zero h0)
          obtain ⟨hf, hcell⟩ := hcl (i % len) hj
          rw [← hI.bel.cell (p := ⟨b0, o + i % len, none⟩) hb0] at hcell
          have g2 : (f (i % len) : Int) % b = v := by rw [← hv]; unfold valF; simp [h0]
          obtain ⟨j, hje⟩ : ∃ j, i % len = j := ⟨_, rfl⟩
          have g1 : (i : Int) % len = j := by rw [← hje]; simp
          rw [hje] at hj hcell g2 hf
          have hlp : 0 < len := Nat.pos_of_ne_zero h0
          generalize f j = fj at *
          have HS2 := hide HS
          have X1 := hide hti
          clear HS hti hv hI hcl hje
          cases up
          · have X2 : Hid (tb i = byteN tl v) := X1.out
            go_wp2_with fail
            go_roundw
            case rel => exact ⟨i + 1, hlt, by simp, by rw [byteN_get tl v VL, ← X2.out]; exact HS2.out⟩
            case measure => simp [intOf]; omega
          · have X2 : Hid (tb i = byteN tu v) := X1.out
            go_wp2_with fail
            go_roundw
            case rel => exact ⟨i + 1, hlt, by simp, by rw [byteN_get tu v VU, ← X2.out]; exact HS2.out⟩
            case measure => simp [intOf]; omega
    · have hkn : i = m := by omega
      subst hkn
      have htb256 : ∀ k, tb k < 256 := by intro k; rw [HT.out]; exact UInt8.toNat_lt _
      have hval : ∀ k, valF len f b k < b := by
        intro k; unfold valF
        split <;> exact Nat.mod_lt _ (by omega)
      have hdv : ∀ k, dval (tb k) = valF len f b k := by
        intro k
        rw [HT.out]
        have := hval k
        cases up
        · exact tlv.out _ (by omega)
        · exact tuv.out _ (by omega)
      obtain ⟨T, hT⟩ : ∃ T : ByteArray, T = ⟨((List.range i).map fun k => UInt8.ofNat (tb k)).toArray⟩ := ⟨_, rfl⟩
      have hTs : T.size = i := by rw [hT]; show (Array.size _) = _; simp
      have hTb : ∀ k, k < i → byteN T k = tb k := by
        intro k hk
        rw [hT]
        unfold byteN
        simp [List.getD, hk, Nat.mod_eq_of_lt (htb256 k)]
      have hcv : Sem.run Ybaf.prog (convert 38 9 (.slice (some ⟨w.heap.size + 1 + 1, 0, none⟩) i i)) wr = .ok (.string T) wr := by
        have := run_convert_bytes_back (P := Ybaf.prog) wr 38 9 5 ⟨w.heap.size + 1 + 1, 0, none⟩ i ((List.range i).map fun k => UInt8.ofNat (tb k)) Ybaf.underlying38 Ybaf.underlying5 Ybaf.underlying9 (by
          intro j hj
          have hj' : j < i := by simpa using hj
          have ea : (⟨w.heap.size + 1 + 1, 0, none⟩ : Addr).add j = ⟨w.heap.size + 1 + 1, j, none⟩ := by
            simp only [Addr.add, Nat.zero_add]
            split <;> simp_all
          rw [ea, row_cell hI.buf, rowV_get _ _ _ _ _ hj']
          simp [hj', Nat.mod_eq_of_lt (htb256 j)])
        rw [hT]
        simpa using this
      obtain ⟨vs, hvs⟩ : ∃ vs, vs = (List.range i).map fun k => valF len f b k := ⟨_, rfl⟩
      have hvs2 : vs = (List.range i).map fun k => dval (byteN T k) := by
        rw [hvs]
        apply List.map_congr_left
        intro k hk
        rw [hTb k (List.mem_range.1 hk), hdv]
      have hall : ∀ k, k < i → (dval (byteN T k) : Int) < b := by
        intro k hk
        rw [hTb k hk, hdv]
        have := hval k
        omega
      have hvsk : ∀ k, k < i → vs.getD k 0 = valF len f b k := by
        intro k hk
        rw [hvs]
        simp [List.getD, hk]
      have hvl : vs.length = i := by rw [hvs]; simp
      have hvc : ∀ k, k < i → wr.cell? ⟨w.heap.size + 1, k, none⟩ = some (.int .i64 (vs.getD k 0 : Nat)) := by
        intro k hk
        rw [row_cell hI.vals, rowV_get _ _ _ _ _ hk, hvsk k hk]
        simp [hk]
      have hv2 : ∀ k, k < i → vs.getD k 0 < 2 ^ d := by
        intro k hk
        rw [hvsk k hk]
        exact base_pow HB.out (by have := hval k; omega)
      have Y1 := hide hall
      have Y2 := hide hvs2
      have Y3 := hide hvc
      have Y4 := hide hv2
      clear hT htb256 hval hdv hTb hvs2 hall hvsk hvc hv2 hI hvs HT tlv tuv hrow
      go_wp2_with (refine wpList_load_row rfl 24 (.tmp 11) rfl _ rfl 24 _ (0, 0) _ HP.out.sp Ybaf.underlying24 rfl info24 ?_)
      refine (Parse_s T i d W b vs HW.out Y2.out HB.out hd1 hd4 hm1 hW256 hTs Y1.out _).mono ?_
      rintro e u1 ⟨rfl, hu1⟩
      have H1 : Hid (WI w W d i (fun i => .int .i64 (valF len f b i : Nat)) (fun i => .int .u8 (tb i : Nat)) i u1) := HP.out.below hu1
      have Y5 : Hid (∀ k, k < i → u1.cell? ⟨w.heap.size + 1, k, none⟩ = some (.int .i64 (vs.getD k 0 : Nat))) :=
        fun k hk => (hu1.cell (p := ⟨w.heap.size + 1, k, none⟩) (Array.getElem?_eq_some_iff.1 HP.out.vals).1).trans (Y3.out k hk)
      clear hu1 hcv Y3 HP
      obtain ⟨N, hN⟩ : ∃ N, num W d vs i = N := ⟨_, rfl⟩
      have Y6 := hide hN
      rw [hN]
      clear hN
      go_wp2_with (refine wpList_store_row rfl 28 (.tmp 20) (.tmp 93) rfl _ _ rfl rfl 28 _ (heap_top _ _ _ (by simp)) info28 rfl (all_one rfl) ?_; rw [setRow_top _ _ _ _ _ (by simp)])
      have B1 : Hid (Below u1.heap.size u1 (u1.alloc (.cells (idC N) 28))) := (Below.refl _ _).alloc (Nat.le_refl _) _
      have L1 : Hid ((u1.alloc (.cells (idC N) 28)).heap[u1.heap.size]? = some (.cells (idC N) 28 (0, 0))) := heap_top _ _ _ rfl
      generalize u1.alloc (.cells (idC N) 28) = v1 at B1 L1 ⊢
      have z1 : u1.heap.size < v1.heap.size := (Array.getElem?_eq_some_iff.1 L1.out).1
      have zR : w.heap.size + 1 < u1.heap.size := (Array.getElem?_eq_some_iff.1 H1.out.vals).1
      have c0 : v1.cell? ⟨u1.heap.size, 0, none⟩ = some (.int .u64 (wd N 0)) := (row_cell L1.out).trans rfl
      have c1 : v1.cell? ⟨u1.heap.size, 1, none⟩ = some (.int .u64 (wd N 1)) := (row_cell L1.out).trans rfl
      have c2 : v1.cell? ⟨u1.heap.size, 2, none⟩ = some (.int .u64 (wd N 2)) := (row_cell L1.out).trans rfl
      have c3 : v1.cell? ⟨u1.heap.size, 3, none⟩ = some (.int .u64 (wd N 3)) := (row_cell L1.out).trans rfl
      have Y7 : Hid (∀ k, k < i → v1.cell? ⟨w.heap.size + 1, k, none⟩ = some (.int .i64 (vs.getD k 0 : Nat))) := fun k hk => (B1.out.cell (p := ⟨w.heap.size + 1, k, none⟩) zR).trans (Y5.out k hk)
      have heq := fun wx => eq28 wx (wd N 0) (wd N 1) (wd N 2) (wd N 3)
      go_region_held3 (fun w' => w'.cell? ⟨u1.heap.size, 0, none⟩ = some (.int .u64 (wd N 0)) ∧ w'.cell? ⟨u1.heap.size, 1, none⟩ = some (.int .u64 (wd N 1)) ∧ w'.cell? ⟨u1.heap.size, 2, none⟩ = some (.int .u64 (wd N 2)) ∧ w'.cell? ⟨u1.heap.size, 3, none⟩ = some (.int .u64 (wd N 3)))
        ((first | exact ⟨c0, c1, c2, c3⟩ | exact ⟨d0, d1, d2, d3⟩))
        ((go_at_call 7; refine (build_s (w.heap.size + 1) i d W vs N HW.out Y6.out hd1 hd4 hW256 hvl Y4.out v1.drew (Nat.lt_trans zR z1) Y7.out).mono ?_; rintro e v2 ⟨rfl, hv2⟩
          have d0 : v2.cell? ⟨u1.heap.size, 0, none⟩ = some (.int .u64 (wd N 0)) := (hv2.cell (p := ⟨u1.heap.size, 0, none⟩) z1).trans c0
          have d1 : v2.cell? ⟨u1.heap.size, 1, none⟩ = some (.int .u64 (wd N 1)) := (hv2.cell (p := ⟨u1.heap.size, 1, none⟩) z1).trans c1
          have d2 : v2.cell? ⟨u1.heap.size, 2, none⟩ = some (.int .u64 (wd N 2)) := (hv2.cell (p := ⟨u1.heap.size, 2, none⟩) z1).trans c2
          have d3 : v2.cell? ⟨u1.heap.size, 3, none⟩ = some (.int .u64 (wd N 3)) := (hv2.cell (p := ⟨u1.heap.size, 3, none⟩) z1).trans c3))
      have HF : Hid (Below w.heap.size w v2) := (H1.out.bel.trans (B1.out.mono H1.out.bel.size)).drew.trans (hv2.mono (Nat.le_trans H1.out.bel.size (Nat.le_of_lt z1)))
      clear hv2 d0 d1 d2 d3 c0 c1 c2 c3
      go_wp2
      go_ret
      exact ⟨rfl, HF.out⟩
end Go.Proofs.YbulkbdxgFmt.W
