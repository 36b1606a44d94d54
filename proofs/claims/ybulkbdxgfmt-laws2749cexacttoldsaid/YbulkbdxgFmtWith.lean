/-
  WithDigit.
-/
import Derived.Test.YbulkbdxgFmtDigit
namespace Go.Proofs.YbulkbdxgFmt.W
open Go.RowKit
open Go.Proofs.YbulkbdxgFmt.P

theorem heap_top (W : World) (o : Obj) (n : Nat) (hn : n = W.heap.size) : (W.alloc o).heap[n]? = some o := by subst hn; exact heap_alloc_new W o
theorem heap_past (W : World) (o : Obj) (n : Nat) (hn : n < W.heap.size) : (W.alloc o).heap[n]? = W.heap[n]? := Below.heap_alloc W o n hn

theorem setRow_top (W : World) (old new : Array Value) (t : TypeId) (n : Nat) (hn : n = W.heap.size) : (W.alloc (.cells old t)).setRow n new = W.alloc (.cells new t) := by
  subst hn
  unfold World.setRow World.alloc
  congr 1
  apply Array.ext_getElem?
  intro k
  simp only [Array.getElem?_modify, Array.getElem?_push]
  by_cases hk : k = W.heap.size
  · subst hk; simp
  · simp [hk, Ne.symm hk]
theorem setRow_past (W : World) (o : Obj) (new : Array Value) (n : Nat) (hn : n < W.heap.size) : (W.alloc o).setRow n new = (W.setRow n new).alloc o := by
  unfold World.setRow World.alloc
  congr 1
  apply Array.ext_getElem?
  intro k
  simp only [Array.getElem?_modify, Array.getElem?_push, Array.size_modify]
  by_cases hk : k = W.heap.size
  · subst hk; simp [Nat.ne_of_lt hn]
  · simp [hk]
theorem all_one {cs : Array Value} (h : cs.toList.all (·.oneCell') = true) : cs.all (·.oneCell') = true := by rw [← Array.all_toList]; exact h
theorem info28 : (Ybaf.prog.info? 28).map (fun i => i.size) = some 4 := by kernel_rfl
theorem info24 : (Ybaf.prog.info? 24).map (fun i => i.size) = some 2 := by kernel_rfl
theorem idC_size (N : Nat) : (idC N).size = 4 := rfl

theorem hide {p : Prop} (h : p) : Hid p := h
theorem below_setRow {B g : Nat} {w0 w : World} (hb : Below B w0 w) (hBg : B ≤ g) (cs : Array Value) : Below B w0 (w.setRow g cs) :=
  hb.trans ⟨rfl, rfl, rfl, by simp, fun k hk => setRow_other _ _ _ _ (by omega)⟩
theorem below_drewN {B : Nat} {a w : World} (h : Below B a w) (n : Nat) : Below B a (w.drewN n) := h.trans ⟨rfl, rfl, rfl, Nat.le_refl _, fun _ _ => rfl⟩

/-- Only the row of block B is turned. -/
structure Put (B : Nat) (R : Array Value) (w w' : World) : Prop where
  eq : ∃ n, w' = (w.setRow B R).drewN n
theorem Put.heap {B : Nat} {R : Array Value} {w w' : World} (h : Put B R w w') {cs : Array Value} {t : TypeId} (hb : w.heap[B]? = some (.cells cs t (0, 0))) : w'.heap[B]? = some (.cells R t (0, 0)) := by
  obtain ⟨n, rfl⟩ := h.eq
  exact setRow_heap w B _ _ t (0, 0) hb
theorem Put.other {B : Nat} {R : Array Value} {w w' : World} (h : Put B R w w') {k : Nat} (hk : k ≠ B) : w'.heap[k]? = w.heap[k]? := by
  obtain ⟨n, rfl⟩ := h.eq
  exact setRow_other w B k _ hk
theorem Put.size {B : Nat} {R : Array Value} {w w' : World} (h : Put B R w w') : w'.heap.size = w.heap.size := by
  obtain ⟨n, rfl⟩ := h.eq
  exact setRow_size _ _ _
theorem Put.cell {B : Nat} {R : Array Value} {w w' : World} (h : Put B R w w') {a : Addr} (hk : a.block ≠ B) : w'.cell? a = w.cell? a := by
  obtain ⟨n, rfl⟩ := h.eq
  exact cell_setRow_other w B _ _ hk
theorem Put.below {B : Nat} {R : Array Value} {w w' : World} (h : Put B R w w') {n : Nat} {w0 : World} (hb : Below n w0 w) (hn : n ≤ B) : Below n w0 w' := by
  obtain ⟨n, rfl⟩ := h.eq
  exact below_drewN (below_setRow hb hn _) _

theorem at_drew {W : World} {n : Nat} {x : Option Obj} (h : W.heap[n]? = x) : W.drew.heap[n]? = x := h

theorem field_s (B low d v N : Nat) (R : Array Value) (V : Int) (hV : V = v) (hR : R = idC (put N v low)) (hd : 1 ≤ d) (hd4 : d ≤ 4) (hal : low % d = 0) (hin : low + d ≤ 256) (hv : v < 2 ^ d) (hN : ∀ b, b < low + d → N.testBit b = false) (w : World)
    (hb : w.heap[B]? = some (.cells (idC N) 28 (0, 0))) :
    Calls Ybaf.prog 17 #[.pointer (some ⟨B, 0, none⟩), .int .i64 low, .int .i64 d, .int .u64 V] w fun e w' => e = .returned (.tuple #[]) ∧ Put B R w w' := by
  subst hR hV
  exact (field_any B low d v N hd hd4 hal hin hv hN w hb).mono fun _ _ ⟨h1, h2⟩ => ⟨h1, ⟨h2⟩⟩

theorem low_s (W d p L : Int) (hd : 1 ≤ d) (hd4 : d ≤ 4) (h0 : 0 ≤ W) (h1 : W ≤ 256) (hp : 0 ≤ p) (hp1 : p ≤ 256) (hl : W - (p + 1) * d = L) (hl0 : 0 ≤ L) (w : World) :
    Calls Ybaf.prog 18 #[.agg #[.int .i64 W, .int .i64 d], .int .i64 p] w fun e w' => e = .returned (.int .i64 L) ∧ w' = w.alloc (.cells #[.int .i64 W, .int .i64 d] 24) := by
  subst hl
  exact low_any W d p hd hd4 h0 h1 hp hp1 hl0 w

set_option maxRecDepth 100000 in
set_option maxHeartbeats 1000000 in
theorem with_any (W d p v N low : Nat) (hd : 1 ≤ d) (hd4 : d ≤ 4) (hW : W ≤ 256) (hp : p ≤ 256) (hlow : low + (p + 1) * d = W) (hal : low % d = 0) (hv : v < 2 ^ d) (hN : ∀ b, b < low + d → N.testBit b = false) (w : World) :
    Calls Ybaf.prog 12 #[.agg (spaceC W d), .agg (idC N), .int .i64 p, .int .i64 v] w fun e w' => e = .returned (.agg (idC (put N v low))) ∧ Below w.heap.size w w' := by
  have hv16 : v < 16 := Nat.lt_of_lt_of_le hv (Nat.pow_le_pow_right (n := 2) (by decide) hd4)
  have hin : low + d ≤ 256 := by
    have : (p + 1) * d = p * d + d := by rw [Nat.add_mul, Nat.one_mul]
    omega
  have hl : (W : Int) - ((p : Int) + 1) * d = low := by
    have : ((p : Int) + 1) * d = (((p + 1) * d : Nat) : Int) := by simp
    omega
  go_enter Ybaf.func12, Ybaf.ntmps12
  have HN := hide hN
  have HA := hide hal
  have HV := hide hv
  unfold spaceC
  obtain ⟨R, hR⟩ : ∃ R, R = idC (put N v low) := ⟨_, rfl⟩
  have HR := hide hR
  rw [← hR]
  have K : idC N = #[.int .u64 (wd N 0), .int .u64 (wd N 1), .int .u64 (wd N 2), .int .u64 (wd N 3)] := rfl
  rw [K]
  clear hN K hR hal hv
  go_wp2
  go_region_held3 (fun w' => w'.cell? ⟨w.heap.size, 0, none⟩ = some (.int .i64 W) ∧ w'.cell? ⟨w.heap.size, 1, none⟩ = some (.int .i64 d)) ((first | exact ⟨dd0, dd1⟩ | assumption | (go_simp; done))) ((first
    | (go_at_call 18; refine (low_s W d p low (by omega) (by omega) (by omega) (by omega) (by omega) (by omega) hl (by omega) _).mono ?_; rintro e w' ⟨rfl, rfl⟩)
    | (go_at_call 17; refine (field_s (w.heap.size + 1) low d v N R _ (by rw [IntKind.wrap_u64]; omega) HR.out hd hd4 HA.out hin HV.out HN.out _ (at_drew ((heap_past _ _ _ (by simp)).trans ((heap_past _ _ _ (by simp)).trans (heap_top _ _ _ (by simp)))))).mono ?_; rintro e u ⟨rfl, hu⟩
       have dd0 : u.cell? ⟨w.heap.size, 0, none⟩ = some (.int .i64 W) := (hu.cell (by simp)).trans (by go_simp)
       have dd1 : u.cell? ⟨w.heap.size, 1, none⟩ = some (.int .i64 d) := (hu.cell (by simp)).trans (by go_simp))))
  clear dd0 dd1
  have H1 : Hid (u.heap[w.heap.size + 1]? = some (.cells R 28 (0, 0))) := hu.heap (at_drew ((heap_past _ _ _ (by simp)).trans ((heap_past _ _ _ (by simp)).trans (heap_top _ _ _ (by simp)))))
  have H2 : Hid (u.heap[w.heap.size + 1 + 1]? = some (.cells #[.int .u64 0, .int .u64 0, .int .u64 0, .int .u64 0] 28 (0, 0))) := (hu.other (by omega)).trans (at_drew ((heap_past _ _ _ (by simp)).trans (heap_top _ _ _ (by simp))))
  have HB : Hid (Below w.heap.size w u) := hu.below (((((Below.refl _ _).alloc (Nat.le_refl _) _).alloc (by simp) _).alloc (by simp; omega) _).alloc (by simp; omega) _).drew (by omega)
  have RS : Hid (R.size = 4) := by rw [HR.out]; exact idC_size _
  have RA : Hid (R.all (·.oneCell') = true) := by rw [HR.out]; exact all_one rfl
  clear hu
  go_wp2_with (first
    | (refine wpList_load_row rfl 28 (.tmp 5) rfl _ rfl 28 _ (0, 0) _ H1.out Ybaf.underlying28 rfl (info28.trans (congrArg some RS.out.symm)) ?_)
    | (refine wpList_store_row rfl 28 (.tmp 8) (.tmp 17) rfl _ _ rfl rfl 28 _ H2.out (info28.trans (congrArg some RS.out.symm)) RS.out.symm RA.out ?_))
  exact bodyPost_ret (results_cell_row rfl _ _ _ 28 R (0, 0) _ rfl (setRow_heap u _ _ _ 28 (0, 0) H2.out) Ybaf.underlying28 rfl (info28.trans (congrArg some RS.out.symm))) rfl ⟨rfl, below_setRow HB.out (by omega) _⟩
end Go.Proofs.YbulkbdxgFmt.W
