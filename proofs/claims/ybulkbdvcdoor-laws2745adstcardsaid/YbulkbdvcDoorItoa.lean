import Derived.Test.YbulkbdvcDoorProg
import Derived.Test.YbulkbdvcDoorPlain
import Derived.Test.YbulkbdvcDoorBytes
import Derived.WalkKit
import Derived.WalkSpells
import Derived.Laws.AppendOwnNone
namespace Go.Proofs.YbulkbdvcDoor.W
open Go.RowKit
open Go.Proofs.YbulkbdvcDoor.P Go.Proofs.YbulkbdvcDoor.B

theorem info5 : (Ybad.prog.info? 5).map (fun i => (i.zero, i.size, i.bytes)) = some (some (.int .u8 0), 1, 1) := by kernel_rfl

theorem dig_cell (m : Nat) : Value.int .u8 (48 + (m : Int) % 10) = .int .u8 ((digOf m).toNat : Int) := by
  congr 1
  rw [digOf_nat]; omega

theorem own_new (wr : World) (B m : Nat) (hB : B ≤ wr.heap.size) :
    (wr.alloc (.cells #[.int .u8 (48 + (m : Int) % 10)] 5)).ownsRow B 5 1 (.slice (some ⟨wr.heap.size, 0, none⟩) 1 1) 1 (bytesV [digOf m]) := by
  rw [dig_cell]
  exact World.ownsRow_lit wr #[.int .u8 ((digOf m).toNat : Int)] 1 hB (by unfold maxLen; omega) rfl

set_option maxHeartbeats 400000 in
theorem itoa_pos (n : Nat) (hn : n ≤ 999) (hp : 0 < n) (w : World) :
    Calls Ybad.prog 9 #[.int .i64 (n : Int)] w fun e w' => ∃ l, e = .returned (.string (strB l)) ∧ Num l n ∧ Below w.heap.size w w' := by
  obtain ⟨i0, hi, hz0, hz1, hz2⟩ := info_parts info5
  have hz2' : i0.bytes ≤ 1 := by omega
  have hp' : ¬ (n : Int) ≤ 0 := by omega
  go_enter Ybad.func9, Ybad.ntmps9
  go_wp2
  go_loopw [0, 3] (fun x v wr => ∃ (m : Nat) (l : List UInt8), m ≤ n ∧ x = .int .i64 m ∧ wr.ownsRow w.heap.size 5 1 v l.length (bytesV l) ∧ Wrote n m l ∧ Below w.heap.size w wr) (fun x _ _ => (intOf x).toNat)
  case atStart => exact ⟨n, [], Nat.le_refl _, rfl, World.ownsRow_nil _ _ _ _, Wrote.start hp, Below.refl _ _⟩
  case round =>
    obtain ⟨m, l, hm, rfl, ho, hL, hb⟩ := hrel
    have hsz := hb.size
    by_cases hm0 : 0 < m
    · have HL := hide (hL.step hm0 hn)
      have hll := hL.len
      rcases ho.2 with ⟨rfl, hl0⟩ | ⟨g, cap, cur, rfl, hg, hh, hcap⟩
      · have hl : l = [] := List.eq_nil_of_length_eq_zero hl0
        subst hl
        have hnew := own_new wr w.heap.size m hsz
        have HN := hide hnew
        clear hnew ho
        go_wp2_with (at_builtin; refine wpList_append_own_none rfl _ _ 22 rfl w.heap.size 5 i0 1 Ybad.underlying22 hi _ 1 _ rfl HN.out rfl ?_)
        go_roundw
        case rel => exact ⟨m / 10, [digOf m], by omega, by go_num, HN.out, HL.out, hb.alloc hsz _⟩
        case measure => simp [intOf]; omega
      · have hnew := own_new wr w.heap.size m hsz
        have hgs : g < wr.heap.size := (Array.getElem?_eq_some_iff.1 hh).1
        have hcells : ∀ j u, (bytesV l)[j]? = some u → (wr.alloc (.cells #[.int .u8 (48 + (m : Int) % 10)] 5)).cell? ((⟨g, 0, none⟩ : Addr).add j) = some u := by
          intro j u hj
          have hjl : j < l.length := by
            have := (List.getElem?_eq_some_iff.1 hj).1
            rwa [bytesV_length] at this
          rw [Addr.add_lit, Nat.zero_add, World.cell?_alloc_past _ _ _ hgs, ho.cellAt j (by omega), hj]
        have HN := hide hnew
        have HC := hide hcells
        have HB := hide hb
        clear hnew hcells ho hcap hb
        go_wp2_with (at_builtin; refine wpList_append_own _ rfl _ _ 22 rfl w.heap.size 5 i0 (.int .u8 0) 1 1 Ybad.underlying22 hi hz0 hz1 hz2 rfl (by decide) _ 1 _ rfl HN.out ⟨g, 0, none⟩ l.length cap (bytesV l) rfl ?c0 HC.out ?c2 ?c3 ?c4 ?c5 ?_)
        case c0 => rw [bytesV_length]; omega
        case c2 => intro u hu; obtain ⟨c, _, rfl⟩ := List.mem_map.1 hu; rfl
        case c3 => unfold maxLen; omega
        case c4 => omega
        case c5 => simp; omega
        intro v' w1 ho1 hg1 _
        have e1 : bytesV [digOf m] ++ bytesV l = bytesV (digOf m :: l) := rfl
        rw [e1, show 1 + l.length = (digOf m :: l).length from by simp; omega] at ho1
        have HO := hide ho1
        have HB1 := hide ((HB.out.alloc hsz (.cells #[.int .u8 (48 + (m : Int) % 10)] 5)).grown hg1 (by simp; omega) (fun k hk => by simp [Value.ownBlock] at hk; omega))
        clear e1 ho1 hg1
        go_wp2
        go_roundw
        case rel => exact ⟨m / 10, digOf m :: l, by omega, by go_num, HO.out, HL.out, HB1.out⟩
        case measure => simp [intOf]; omega
    · have hm1 : m = 0 := by omega
      subst hm1
      have hN := hL.done
      have hnl := hN.pos
      rcases ho.2 with ⟨rfl, hl0⟩ | ⟨g, cap, cur, rfl, hg, hh, hcap⟩
      · omega
      · have hcv := own_conv (P := Ybad.prog) ho rfl Ybad.underlying22 Ybad.underlying5 Ybad.underlying9
        have HN := hide hN
        clear ho hcap hN hL
        go_wp2
        go_ret
        exact ⟨l, rfl, HN.out, hb⟩

/-- 'zzs2745aitoa'. -/
theorem itoa_ok (n : Nat) (hn : n ≤ 999) (w : World) :
    Calls Ybad.prog 9 #[.int .i64 (n : Int)] w fun e w' => ∃ l, e = .returned (.string (strB l)) ∧ Num l n ∧ Below w.heap.size w w' := by
  by_cases hp : 0 < n
  · exact itoa_pos n hn hp w
  · have : n = 0 := by omega
    subst this
    go_enter Ybad.func9, Ybad.ntmps9
    go_wp2
    go_ret
    exact ⟨[48], rfl, ⟨by simp, by simp, rfl, by simp⟩, Below.refl _ _⟩
end Go.Proofs.YbulkbdvcDoor.W
