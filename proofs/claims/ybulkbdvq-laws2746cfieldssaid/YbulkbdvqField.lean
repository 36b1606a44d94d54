import Derived.Test.YbulkbdvqLayout
import Derived.Lib.AppendStr
namespace Go.Proofs.Ybulkbdvq.W
open Go.RowKit
open Go.Proofs.Ybulkbdvq.B

theorem info5 : (Yba.prog.info? 5).map (fun i => (i.zero, i.size, i.bytes)) = some (some (.int .u8 0), 1, 1) := by kernel_rfl

/-- 'append(b, s...)', s a string, within b's capacity. -/
theorem app_room {ops : Array Oper} {rest : List Oper} {o : Oper} {a : Act} {w : World} {Q : Exit → Act → World → Prop} (hgd : o.guard = none) (sl x : Operand)
    (ho : o.op = .call { callee := .builtin .append, args := #[sl, x], argTypes := #[26, 9] }) (base : Nat) (i : TypeInfo) (hi : Yba.prog.info? 5 = some i) (hs1 : i.size = 1)
    (g k cap : Nat) (l : List UInt8) (hs : a.eval sl = .slice (some ⟨g, 0, none⟩) k cap) (hown : w.ownsRow base 5 1 (.slice (some ⟨g, 0, none⟩) k cap) k (bytesV l)) (s : List UInt8) (hx : a.eval x = .string (strB s)) (k' : Nat) (hk' : k + s.length = k') (hroom : k' ≤ cap)
    (h : ∀ w', w'.ownsRow base 5 1 (.slice (some ⟨g, 0, none⟩) k' cap) k' (bytesV (l ++ s)) → w.grownBy w' (some g) → wpList Yba.prog ops Q rest (a.put o.dst (.slice (some ⟨g, 0, none⟩) k' cap)) w') : wpList Yba.prog ops Q (o :: rest) a w := by
  refine wpList_plain hgd fun K hK => ?_
  have hl := hown.1
  rcases hown.2 with ⟨h', _⟩ | ⟨g', cap', cur, h', hb, hg, hnc, hcm, hcs, htake⟩
  · simp at h'
  · simp only [Value.slice.injEq, Option.some.injEq, Addr.mk.injEq, and_true, true_and] at h'
    obtain ⟨rfl, rfl⟩ := h'
    have hsz : (strB s).size = s.length := strB_size s
    have hrun := Lib.run_append_room_string (P := Yba.prog) w 26 9 o.type 5 i Yba.underlying26 Yba.underlying9 hi hs1 g k cap cur hg (strB s) (by omega) (by omega)
    rw [hsz, hk'] at hrun
    unfold Oper.wp
    simp [execOp, ho, resolve, invoke, builtin, hs, hx, hrun, Result.andThen]
    refine hK _ _ (h _ ?_ ?_)
    · have e : Lib.strCells (strB s) = bytesV s := by simp [Lib.strCells, bytesV, strB]
      have ht : cur.toList.take k = bytesV l := by simpa using htake
      refine ⟨?_, .inr ⟨g, cap, _, rfl, hb, setRow_heap w g cur _ 5 _ hg, hroom, hcm, ?_, ?_⟩⟩
      · rw [bytesV_length, List.length_append]; rw [bytesV_length] at hl; omega
      · rw [e]
        simp only [List.size_toArray, List.length_append, List.length_take, List.length_drop, Array.length_toList, bytesV_length]
        omega
      · rw [e, ht]
        have el : k' * 1 = (bytesV l ++ bytesV s).length := by rw [List.length_append, bytesV_length, bytesV_length]; rw [bytesV_length] at hl; omega
        rw [el]
        rw [List.toList_toArray, ← List.append_assoc, List.take_left]
        simp [bytesV]
    · exact ⟨rfl, rfl, rfl, by simp, fun j _ hj => setRow_other w g j _ (fun e => hj (by simp [e]))⟩

/-- 'append(b, c...)', the new bytes in a block just laid, within b's capacity. -/
theorem app_lit {ops : Array Oper} {rest : List Oper} {o : Oper} {a : Act} {w : World} {Q : Exit → Act → World → Prop} (hgd : o.guard = none) (sl x : Operand)
    (ho : o.op = .call { callee := .builtin .append, args := #[sl, x], argTypes := #[26, 26] }) (base : Nat) (i : TypeInfo) (hi : Yba.prog.info? 5 = some i) (hs1 : i.size = 1)
    (g k cap : Nat) (l : List UInt8) (cs : Array Value) (s : List UInt8) (hcs : cs.toList = bytesV s) (hs : a.eval sl = .slice (some ⟨g, 0, none⟩) k cap) (hown : w.ownsRow base 5 1 (.slice (some ⟨g, 0, none⟩) k cap) k (bytesV l)) (m : Nat) (hm : s.length = m)
    (hx : a.eval x = .slice (some ⟨w.heap.size, 0, none⟩) m m) (k' : Nat) (hk' : k + m = k') (hroom : k' ≤ cap)
    (h : ∀ w', w'.ownsRow base 5 1 (.slice (some ⟨g, 0, none⟩) k' cap) k' (bytesV (l ++ s)) → (w.alloc (.cells cs 5)).grownBy w' (some g) → wpList Yba.prog ops Q rest (a.put o.dst (.slice (some ⟨g, 0, none⟩) k' cap)) w') :
    wpList Yba.prog ops Q (o :: rest) a (w.alloc (.cells cs 5)) := by
  subst hk'
  refine wpList_append_fits _ hgd sl x 26 ho base 5 i 1 Yba.underlying26 hi hs1 g k cap (bytesV l) hs (hown.alloc _) ⟨w.heap.size, 0, none⟩ m m (bytesV s) hx (by rw [bytesV_length]; omega) ?_ ?_ hroom ?_
  · intro j u hj
    rw [Addr.add_lit, Nat.zero_add, World.cell?_alloc_at _ _ _ _ rfl, ← hj, ← hcs]
    simp
  · intro u hu
    obtain ⟨c, _, rfl⟩ := List.mem_map.1 hu
    rfl
  · intro w' h1 h2
    have e : bytesV (l ++ s) = bytesV l ++ bytesV s := by simp [bytesV]
    exact h w' (by rw [e]; exact h1) h2

theorem hd {g : Nat} {w w1 : World} (B : Nat) {a : World} (hb : Below B a w) (hsz : B ≤ w.heap.size) (hg : B ≤ g) (h : w.grownBy w1 (some g)) : Below B a w1 :=
  hb.grown h hsz (fun k hk => by simp at hk; omega)

set_option maxRecDepth 100000 in
set_option maxHeartbeats 1000000 in
/-- 'zzs2746cfield'. -/
theorem field_any (lead sep key colon : List UInt8) (h1 : lead.length ≤ 100) (h2 : sep.length ≤ 140737488351232) (h3 : key.length ≤ 100) (h4 : colon.length ≤ 140737488351232) (w : World) :
    Calls Yba.prog 6 #[.string (strB lead), .string (strB sep), .string (strB key), .string (strB colon)] w fun e w' => e = .returned (.string (strB (fld (lead ++ sep) key colon))) ∧ Below w.heap.size w w' := by
  obtain ⟨i0, hi, hz0, hz1, hz2⟩ := info_parts info5
  have s1 : (strB lead).size ≤ 100 := by rw [strB_size]; exact h1
  have s2 : (strB sep).size ≤ 140737488351232 := by rw [strB_size]; exact h2
  have s3 : (strB key).size ≤ 100 := by rw [strB_size]; exact h3
  have s4 : (strB colon).size ≤ 140737488351232 := by rw [strB_size]; exact h4
  obtain ⟨n, hn⟩ : ∃ n, n = lead.length + sep.length + key.length + colon.length + 4 := ⟨_, rfl⟩
  obtain ⟨n1, e1⟩ : ∃ x, 0 + lead.length = x := ⟨_, rfl⟩
  obtain ⟨n2, e2⟩ : ∃ x, n1 + sep.length = x := ⟨_, rfl⟩
  obtain ⟨n3, e3⟩ : ∃ x, n2 + 1 = x := ⟨_, rfl⟩
  obtain ⟨n4, e4⟩ : ∃ x, n3 + key.length = x := ⟨_, rfl⟩
  obtain ⟨n5, e5⟩ : ∃ x, n4 + 2 = x := ⟨_, rfl⟩
  obtain ⟨n6, e6⟩ : ∃ x, n5 + colon.length = x := ⟨_, rfl⟩
  have b1 : n1 ≤ n := by omega
  have b2 : n2 ≤ n := by omega
  have b3 : n3 ≤ n := by omega
  have b4 : n4 ≤ n := by omega
  have b5 : n5 ≤ n := by omega
  have b6 : n6 ≤ n := by omega
  have bn : n ≤ 281474976710656 := by omega
  have HN := hide hn
  have E1 := hide e1
  have E2 := hide e2
  have E3 := hide e3
  have E4 := hide e4
  have E5 := hide e5
  have E6 := hide e6
  clear hn e1 e2 e3 e4 e5 e6
  go_enter Yba.func6, Yba.ntmps6
  go_wp2_with (at_make; refine wpList_make_own _ rfl _ _ 26 rfl w.heap.size 5 i0 (.int .u8 0) 1 Yba.underlying26 hi hz0 hz1 .i64 .i64 _ n rfl rfl ?c1 ?c2 ?c3 ?c4 ?_)
  case c1 => rw [HN.out]; simp only [strB_size]; omega
  case c2 => rw [hz2]; omega
  case c3 => unfold maxLen; omega
  case c4 => exact Nat.le_refl _
  intro w1 o1 g1
  have W1 : Hid (Below w.heap.size w w1) := (Below.refl _ _).grown g1 (Nat.le_refl _) (fun k h => by cases h)
  have O1 : Hid (w1.ownsRow w.heap.size 5 1 (.slice (some ⟨w.heap.size, 0, none⟩) 0 n) 0 (bytesV [])) := o1
  clear o1 g1
  go_wp2_with (at_builtin; refine app_room rfl _ _ rfl w.heap.size i0 hi hz1 w.heap.size 0 n [] rfl O1.out lead rfl n1 E1.out b1 ?_)
  intro w2 o2 g2
  have W2 : Hid (Below w.heap.size w w2) := hd w.heap.size W1.out W1.out.size (Nat.le_refl _) g2
  have O2 := hide o2
  clear o2 g2
  go_wp2_with (at_builtin; refine app_room rfl _ _ rfl w.heap.size i0 hi hz1 w.heap.size n1 n _ rfl O2.out sep rfl n2 E2.out b2 ?_)
  intro w3 o3 g3
  have W3 : Hid (Below w.heap.size w w3) := hd w.heap.size W2.out W2.out.size (Nat.le_refl _) g3
  have O3 := hide o3
  clear o3 g3
  go_wp2_with (at_builtin; refine app_lit rfl _ _ rfl w.heap.size i0 hi hz1 w.heap.size n2 n _ #[.int .u8 34] [34] rfl rfl O3.out 1 rfl rfl n3 E3.out b3 ?_)
  intro w4 o4 g4
  have W4 : Hid (Below w.heap.size w w4) := hd w.heap.size (Below.alloc W3.out W3.out.size _) (by have := W3.out.size; simp; omega) (Nat.le_refl _) g4
  have O4 := hide o4
  clear o4 g4
  go_wp2_with (at_builtin; refine app_room rfl _ _ rfl w.heap.size i0 hi hz1 w.heap.size n3 n _ rfl O4.out key rfl n4 E4.out b4 ?_)
  intro w5 o5 g5
  have W5 : Hid (Below w.heap.size w w5) := hd w.heap.size W4.out W4.out.size (Nat.le_refl _) g5
  have O5 := hide o5
  clear o5 g5
  go_wp2_with (at_builtin; refine app_lit rfl _ _ rfl w.heap.size i0 hi hz1 w.heap.size n4 n _ #[.int .u8 34, .int .u8 58] [34, 58] rfl rfl O5.out 2 rfl rfl n5 E5.out b5 ?_)
  intro w6 o6 g6
  have W6 : Hid (Below w.heap.size w w6) := hd w.heap.size (Below.alloc W5.out W5.out.size _) (by have := W5.out.size; simp; omega) (Nat.le_refl _) g6
  have O6 := hide o6
  clear o6 g6
  go_wp2_with (at_builtin; refine app_room rfl _ _ rfl w.heap.size i0 hi hz1 w.heap.size n5 n _ rfl O6.out colon rfl n6 E6.out b6 ?_)
  intro w7 o7 g7
  have W7 : Hid (Below w.heap.size w w7) := hd w.heap.size W6.out W6.out.size (Nat.le_refl _) g7
  have hcv := own_conv (P := Yba.prog) o7 (by have := o7.1; rw [bytesV_length] at this; omega) Yba.underlying26 Yba.underlying5 Yba.underlying9
  clear o7 g7
  go_wp2
  go_ret
  exact ⟨ret_s (by simp [fld]), W7.out⟩
end Go.Proofs.Ybulkbdvq.W
