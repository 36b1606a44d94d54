import Derived.Test.YbulkbdvcDoorNumber
namespace Go.Proofs.YbulkbdvcDoor.W
open Go.RowKit
open Go.Proofs.YbulkbdvcDoor.P Go.Proofs.YbulkbdvcDoor.B

theorem noDig_cons (c : UInt8) (l : List UInt8) (h : digB c = false) : NoDig (c :: l) := by intro d hd; simp at hd; subst hd; exact h

theorem At.cut {w : World} {b : Nat} {l r : List UInt8} (h : At w b (l ++ r)) : At (w.setCell ⟨b, 0, none⟩ (.string (strB r))) b r :=
  h.set r (by have := h.small; rw [List.length_append] at this; omega)
theorem At.cut1 {w : World} {b : Nat} {c : UInt8} {r : List UInt8} (h : At w b (c :: r)) : At (w.setCell ⟨b, 0, none⟩ (.string (strB r))) b r :=
  h.set r (by have := h.small; rw [List.length_cons] at this; omega)

theorem offset_n0 (b : Nat) (H rest : List UInt8) (h : Nat) (hH : Num H h) (hh : h ≤ 167) (hd : NoDig rest) (hc : NoC 58 rest) (w : World) (at0 : At w b (H ++ rest)) :
    Calls Ybad.prog 11 #[.pointer (some ⟨b, 0, none⟩)] w fun e w' => e = .returned (.int .i64 ((h : Int) * 3600)) ∧ w' = w.setCell ⟨b, 0, none⟩ (.string (strB rest)) := by
  have hh' : (h : Int) ≤ 167 := by omega
  go_enter Ybad.func11, Ybad.ntmps11
  go_wp2_with fail
  refine (skip_miss b 43 _ (hH.noC 43 rfl) 43 rfl _ at0).mono ?_
  rintro e w' ⟨rfl, rfl⟩
  go_wp2_with fail
  refine (skip_miss b 45 _ (hH.noC 45 rfl) 45 rfl _ at0).mono ?_
  rintro e w' ⟨rfl, rfl⟩
  go_wp2_with fail
  refine (number_ok b H _ _ 0 167 hH (by omega) (by omega) (by omega) hd _ at0).mono ?_
  rintro e w' ⟨rfl, rfl⟩
  have at2 := at0.cut
  go_wp2_with fail
  refine (skip_miss b 58 _ hc 58 rfl _ at2).mono ?_
  rintro e w' ⟨rfl, rfl⟩
  go_wp2
  go_ret
  exact ⟨ret_int (by omega), rfl⟩

theorem offset_n1 (b : Nat) (H rest : List UInt8) (h : Nat) (hH : Num H h) (hh : h ≤ 167) (M : List UInt8) (m : Nat) (hM : Num M m) (hm : m ≤ 59) (hd : NoDig rest) (hc : NoC 58 rest) (w : World) (at0 : At w b (H ++ (58 :: (M ++ rest)))) :
    Calls Ybad.prog 11 #[.pointer (some ⟨b, 0, none⟩)] w fun e w' => e = .returned (.int .i64 ((h : Int) * 3600 + (m : Int) * 60)) ∧ w' = w.setCell ⟨b, 0, none⟩ (.string (strB rest)) := by
  have hh' : (h : Int) ≤ 167 := by omega
  have hm' : (m : Int) ≤ 59 := by omega
  go_enter Ybad.func11, Ybad.ntmps11
  go_wp2_with fail
  refine (skip_miss b 43 _ (hH.noC 43 rfl) 43 rfl _ at0).mono ?_
  rintro e w' ⟨rfl, rfl⟩
  go_wp2_with fail
  refine (skip_miss b 45 _ (hH.noC 45 rfl) 45 rfl _ at0).mono ?_
  rintro e w' ⟨rfl, rfl⟩
  go_wp2_with fail
  refine (number_ok b H _ _ 0 167 hH (by omega) (by omega) (by omega) (noDig_cons 58 _ rfl) _ at0).mono ?_
  rintro e w' ⟨rfl, rfl⟩
  have at2 := at0.cut
  go_wp2_with fail
  refine (skip_hit b 58 _ 58 rfl _ at2).mono ?_
  rintro e w' ⟨rfl, rfl⟩
  have at3 := at2.cut1
  rw [setCell_twice] at at3 ⊢
  go_wp2_with fail
  refine (number_ok b M _ _ 0 59 hM (by omega) (by omega) (by omega) hd _ at3).mono ?_
  rintro e w' ⟨rfl, rfl⟩
  have at4 := at3.cut
  rw [setCell_twice] at at4 ⊢
  go_wp2_with fail
  refine (skip_miss b 58 _ hc 58 rfl _ at4).mono ?_
  rintro e w' ⟨rfl, rfl⟩
  go_wp2
  go_ret
  exact ⟨ret_int (by omega), rfl⟩

theorem offset_n2 (b : Nat) (H rest : List UInt8) (h : Nat) (hH : Num H h) (hh : h ≤ 167) (M : List UInt8) (m : Nat) (hM : Num M m) (hm : m ≤ 59) (S : List UInt8) (s : Nat) (hS : Num S s) (hs : s ≤ 59) (hd : NoDig rest) (_hc : NoC 58 rest) (w : World) (at0 : At w b (H ++ (58 :: (M ++ 58 :: (S ++ rest))))) :
    Calls Ybad.prog 11 #[.pointer (some ⟨b, 0, none⟩)] w fun e w' => e = .returned (.int .i64 ((h : Int) * 3600 + (m : Int) * 60 + (s : Int))) ∧ w' = w.setCell ⟨b, 0, none⟩ (.string (strB rest)) := by
  have hh' : (h : Int) ≤ 167 := by omega
  have hm' : (m : Int) ≤ 59 := by omega
  have hs' : (s : Int) ≤ 59 := by omega
  go_enter Ybad.func11, Ybad.ntmps11
  go_wp2_with fail
  refine (skip_miss b 43 _ (hH.noC 43 rfl) 43 rfl _ at0).mono ?_
  rintro e w' ⟨rfl, rfl⟩
  go_wp2_with fail
  refine (skip_miss b 45 _ (hH.noC 45 rfl) 45 rfl _ at0).mono ?_
  rintro e w' ⟨rfl, rfl⟩
  go_wp2_with fail
  refine (number_ok b H _ _ 0 167 hH (by omega) (by omega) (by omega) (noDig_cons 58 _ rfl) _ at0).mono ?_
  rintro e w' ⟨rfl, rfl⟩
  have at2 := at0.cut
  go_wp2_with fail
  refine (skip_hit b 58 _ 58 rfl _ at2).mono ?_
  rintro e w' ⟨rfl, rfl⟩
  have at3 := at2.cut1
  rw [setCell_twice] at at3 ⊢
  go_wp2_with fail
  refine (number_ok b M _ _ 0 59 hM (by omega) (by omega) (by omega) (noDig_cons 58 _ rfl) _ at3).mono ?_
  rintro e w' ⟨rfl, rfl⟩
  have at4 := at3.cut
  rw [setCell_twice] at at4 ⊢
  go_wp2_with fail
  refine (skip_hit b 58 _ 58 rfl _ at4).mono ?_
  rintro e w' ⟨rfl, rfl⟩
  have at5 := at4.cut1
  rw [setCell_twice] at at5 ⊢
  go_wp2_with fail
  refine (number_ok b S _ _ 0 59 hS (by omega) (by omega) (by omega) hd _ at5).mono ?_
  rintro e w' ⟨rfl, rfl⟩
  have at6 := at5.cut
  rw [setCell_twice] at at6 ⊢
  go_wp2
  go_ret
  exact ⟨ret_int (by omega), rfl⟩

theorem offset_p0 (b : Nat) (H rest : List UInt8) (h : Nat) (hH : Num H h) (hh : h ≤ 167) (hd : NoDig rest) (hc : NoC 58 rest) (w : World) (at0 : At w b (43 :: (H ++ rest))) :
    Calls Ybad.prog 11 #[.pointer (some ⟨b, 0, none⟩)] w fun e w' => e = .returned (.int .i64 ((h : Int) * 3600)) ∧ w' = w.setCell ⟨b, 0, none⟩ (.string (strB rest)) := by
  have hh' : (h : Int) ≤ 167 := by omega
  go_enter Ybad.func11, Ybad.ntmps11
  go_wp2_with fail
  refine (skip_hit b 43 _ 43 rfl _ at0).mono ?_
  rintro e w' ⟨rfl, rfl⟩
  have at1 := at0.cut1
  go_wp2_with fail
  refine (number_ok b H _ _ 0 167 hH (by omega) (by omega) (by omega) hd _ at1).mono ?_
  rintro e w' ⟨rfl, rfl⟩
  have at2 := at1.cut
  rw [setCell_twice] at at2 ⊢
  go_wp2_with fail
  refine (skip_miss b 58 _ hc 58 rfl _ at2).mono ?_
  rintro e w' ⟨rfl, rfl⟩
  go_wp2
  go_ret
  exact ⟨ret_int (by omega), rfl⟩

theorem offset_p1 (b : Nat) (H rest : List UInt8) (h : Nat) (hH : Num H h) (hh : h ≤ 167) (M : List UInt8) (m : Nat) (hM : Num M m) (hm : m ≤ 59) (hd : NoDig rest) (hc : NoC 58 rest) (w : World) (at0 : At w b (43 :: (H ++ (58 :: (M ++ rest))))) :
    Calls Ybad.prog 11 #[.pointer (some ⟨b, 0, none⟩)] w fun e w' => e = .returned (.int .i64 ((h : Int) * 3600 + (m : Int) * 60)) ∧ w' = w.setCell ⟨b, 0, none⟩ (.string (strB rest)) := by
  have hh' : (h : Int) ≤ 167 := by omega
  have hm' : (m : Int) ≤ 59 := by omega
  go_enter Ybad.func11, Ybad.ntmps11
  go_wp2_with fail
  refine (skip_hit b 43 _ 43 rfl _ at0).mono ?_
  rintro e w' ⟨rfl, rfl⟩
  have at1 := at0.cut1
  go_wp2_with fail
  refine (number_ok b H _ _ 0 167 hH (by omega) (by omega) (by omega) (noDig_cons 58 _ rfl) _ at1).mono ?_
  rintro e w' ⟨rfl, rfl⟩
  have at2 := at1.cut
  rw [setCell_twice] at at2 ⊢
  go_wp2_with fail
  refine (skip_hit b 58 _ 58 rfl _ at2).mono ?_
  rintro e w' ⟨rfl, rfl⟩
  have at3 := at2.cut1
  rw [setCell_twice] at at3 ⊢
  go_wp2_with fail
  refine (number_ok b M _ _ 0 59 hM (by omega) (by omega) (by omega) hd _ at3).mono ?_
  rintro e w' ⟨rfl, rfl⟩
  have at4 := at3.cut
  rw [setCell_twice] at at4 ⊢
  go_wp2_with fail
  refine (skip_miss b 58 _ hc 58 rfl _ at4).mono ?_
  rintro e w' ⟨rfl, rfl⟩
  go_wp2
  go_ret
  exact ⟨ret_int (by omega), rfl⟩

theorem offset_p2 (b : Nat) (H rest : List UInt8) (h : Nat) (hH : Num H h) (hh : h ≤ 167) (M : List UInt8) (m : Nat) (hM : Num M m) (hm : m ≤ 59) (S : List UInt8) (s : Nat) (hS : Num S s) (hs : s ≤ 59) (hd : NoDig rest) (_hc : NoC 58 rest) (w : World) (at0 : At w b (43 :: (H ++ (58 :: (M ++ 58 :: (S ++ rest)))))) :
    Calls Ybad.prog 11 #[.pointer (some ⟨b, 0, none⟩)] w fun e w' => e = .returned (.int .i64 ((h : Int) * 3600 + (m : Int) * 60 + (s : Int))) ∧ w' = w.setCell ⟨b, 0, none⟩ (.string (strB rest)) := by
  have hh' : (h : Int) ≤ 167 := by omega
  have hm' : (m : Int) ≤ 59 := by omega
  have hs' : (s : Int) ≤ 59 := by omega
  go_enter Ybad.func11, Ybad.ntmps11
  go_wp2_with fail
  refine (skip_hit b 43 _ 43 rfl _ at0).mono ?_
  rintro e w' ⟨rfl, rfl⟩
  have at1 := at0.cut1
  go_wp2_with fail
  refine (number_ok b H _ _ 0 167 hH (by omega) (by omega) (by omega) (noDig_cons 58 _ rfl) _ at1).mono ?_
  rintro e w' ⟨rfl, rfl⟩
  have at2 := at1.cut
  rw [setCell_twice] at at2 ⊢
  go_wp2_with fail
  refine (skip_hit b 58 _ 58 rfl _ at2).mono ?_
  rintro e w' ⟨rfl, rfl⟩
  have at3 := at2.cut1
  rw [setCell_twice] at at3 ⊢
  go_wp2_with fail
  refine (number_ok b M _ _ 0 59 hM (by omega) (by omega) (by omega) (noDig_cons 58 _ rfl) _ at3).mono ?_
  rintro e w' ⟨rfl, rfl⟩
  have at4 := at3.cut
  rw [setCell_twice] at at4 ⊢
  go_wp2_with fail
  refine (skip_hit b 58 _ 58 rfl _ at4).mono ?_
  rintro e w' ⟨rfl, rfl⟩
  have at5 := at4.cut1
  rw [setCell_twice] at at5 ⊢
  go_wp2_with fail
  refine (number_ok b S _ _ 0 59 hS (by omega) (by omega) (by omega) hd _ at5).mono ?_
  rintro e w' ⟨rfl, rfl⟩
  have at6 := at5.cut
  rw [setCell_twice] at at6 ⊢
  go_wp2
  go_ret
  exact ⟨ret_int (by omega), rfl⟩

theorem offset_m0 (b : Nat) (H rest : List UInt8) (h : Nat) (hH : Num H h) (hh : h ≤ 167) (hd : NoDig rest) (hc : NoC 58 rest) (w : World) (at0 : At w b (45 :: (H ++ rest))) :
    Calls Ybad.prog 11 #[.pointer (some ⟨b, 0, none⟩)] w fun e w' => e = .returned (.int .i64 (-((h : Int) * 3600))) ∧ w' = w.setCell ⟨b, 0, none⟩ (.string (strB rest)) := by
  have hh' : (h : Int) ≤ 167 := by omega
  go_enter Ybad.func11, Ybad.ntmps11
  go_wp2_with fail
  refine (skip_miss b 43 _ (fun d hd e => by simp at hd; subst hd; simp at e) 43 rfl _ at0).mono ?_
  rintro e w' ⟨rfl, rfl⟩
  go_wp2_with fail
  refine (skip_hit b 45 _ 45 rfl _ at0).mono ?_
  rintro e w' ⟨rfl, rfl⟩
  have at1 := at0.cut1
  go_wp2_with fail
  refine (number_ok b H _ _ 0 167 hH (by omega) (by omega) (by omega) hd _ at1).mono ?_
  rintro e w' ⟨rfl, rfl⟩
  have at2 := at1.cut
  rw [setCell_twice] at at2 ⊢
  go_wp2_with fail
  refine (skip_miss b 58 _ hc 58 rfl _ at2).mono ?_
  rintro e w' ⟨rfl, rfl⟩
  go_wp2
  go_ret
  exact ⟨ret_int (by omega), rfl⟩

theorem offset_m1 (b : Nat) (H rest : List UInt8) (h : Nat) (hH : Num H h) (hh : h ≤ 167) (M : List UInt8) (m : Nat) (hM : Num M m) (hm : m ≤ 59) (hd : NoDig rest) (hc : NoC 58 rest) (w : World) (at0 : At w b (45 :: (H ++ (58 :: (M ++ rest))))) :
    Calls Ybad.prog 11 #[.pointer (some ⟨b, 0, none⟩)] w fun e w' => e = .returned (.int .i64 (-((h : Int) * 3600 + (m : Int) * 60))) ∧ w' = w.setCell ⟨b, 0, none⟩ (.string (strB rest)) := by
  have hh' : (h : Int) ≤ 167 := by omega
  have hm' : (m : Int) ≤ 59 := by omega
  go_enter Ybad.func11, Ybad.ntmps11
  go_wp2_with fail
  refine (skip_miss b 43 _ (fun d hd e => by simp at hd; subst hd; simp at e) 43 rfl _ at0).mono ?_
  rintro e w' ⟨rfl, rfl⟩
  go_wp2_with fail
  refine (skip_hit b 45 _ 45 rfl _ at0).mono ?_
  rintro e w' ⟨rfl, rfl⟩
  have at1 := at0.cut1
  go_wp2_with fail
  refine (number_ok b H _ _ 0 167 hH (by omega) (by omega) (by omega) (noDig_cons 58 _ rfl) _ at1).mono ?_
  rintro e w' ⟨rfl, rfl⟩
  have at2 := at1.cut
  rw [setCell_twice] at at2 ⊢
  go_wp2_with fail
  refine (skip_hit b 58 _ 58 rfl _ at2).mono ?_
  rintro e w' ⟨rfl, rfl⟩
  have at3 := at2.cut1
  rw [setCell_twice] at at3 ⊢
  go_wp2_with fail
  refine (number_ok b M _ _ 0 59 hM (by omega) (by omega) (by omega) hd _ at3).mono ?_
  rintro e w' ⟨rfl, rfl⟩
  have at4 := at3.cut
  rw [setCell_twice] at at4 ⊢
  go_wp2_with fail
  refine (skip_miss b 58 _ hc 58 rfl _ at4).mono ?_
  rintro e w' ⟨rfl, rfl⟩
  go_wp2
  go_ret
  exact ⟨ret_int (by omega), rfl⟩

theorem offset_m2 (b : Nat) (H rest : List UInt8) (h : Nat) (hH : Num H h) (hh : h ≤ 167) (M : List UInt8) (m : Nat) (hM : Num M m) (hm : m ≤ 59) (S : List UInt8) (s : Nat) (hS : Num S s) (hs : s ≤ 59) (hd : NoDig rest) (_hc : NoC 58 rest) (w : World) (at0 : At w b (45 :: (H ++ (58 :: (M ++ 58 :: (S ++ rest)))))) :
    Calls Ybad.prog 11 #[.pointer (some ⟨b, 0, none⟩)] w fun e w' => e = .returned (.int .i64 (-((h : Int) * 3600 + (m : Int) * 60 + (s : Int)))) ∧ w' = w.setCell ⟨b, 0, none⟩ (.string (strB rest)) := by
  have hh' : (h : Int) ≤ 167 := by omega
  have hm' : (m : Int) ≤ 59 := by omega
  have hs' : (s : Int) ≤ 59 := by omega
  go_enter Ybad.func11, Ybad.ntmps11
  go_wp2_with fail
  refine (skip_miss b 43 _ (fun d hd e => by simp at hd; subst hd; simp at e) 43 rfl _ at0).mono ?_
  rintro e w' ⟨rfl, rfl⟩
  go_wp2_with fail
  refine (skip_hit b 45 _ 45 rfl _ at0).mono ?_
  rintro e w' ⟨rfl, rfl⟩
  have at1 := at0.cut1
  go_wp2_with fail
  refine (number_ok b H _ _ 0 167 hH (by omega) (by omega) (by omega) (noDig_cons 58 _ rfl) _ at1).mono ?_
  rintro e w' ⟨rfl, rfl⟩
  have at2 := at1.cut
  rw [setCell_twice] at at2 ⊢
  go_wp2_with fail
  refine (skip_hit b 58 _ 58 rfl _ at2).mono ?_
  rintro e w' ⟨rfl, rfl⟩
  have at3 := at2.cut1
  rw [setCell_twice] at at3 ⊢
  go_wp2_with fail
  refine (number_ok b M _ _ 0 59 hM (by omega) (by omega) (by omega) (noDig_cons 58 _ rfl) _ at3).mono ?_
  rintro e w' ⟨rfl, rfl⟩
  have at4 := at3.cut
  rw [setCell_twice] at at4 ⊢
  go_wp2_with fail
  refine (skip_hit b 58 _ 58 rfl _ at4).mono ?_
  rintro e w' ⟨rfl, rfl⟩
  have at5 := at4.cut1
  rw [setCell_twice] at at5 ⊢
  go_wp2_with fail
  refine (number_ok b S _ _ 0 59 hS (by omega) (by omega) (by omega) hd _ at5).mono ?_
  rintro e w' ⟨rfl, rfl⟩
  have at6 := at5.cut
  rw [setCell_twice] at at6 ⊢
  go_wp2
  go_ret
  exact ⟨ret_int (by omega), rfl⟩

/-- 'offset' at an offset or a time of day. -/
theorem offset_ok (b : Nat) (l rest : List UInt8) (v : Int) (hl : Off l v) (hd : NoDig rest) (hc : NoC 58 rest) (w : World) (at0 : At w b (l ++ rest)) :
    Calls Ybad.prog 11 #[.pointer (some ⟨b, 0, none⟩)] w fun e w' => e = .returned (.int .i64 v) ∧ w' = w.setCell ⟨b, 0, none⟩ (.string (strB rest)) := by
  obtain ⟨sg, H, h, tl, sec, rfl, hH, hh, ht, hsg⟩ := hl
  rcases hsg with ⟨rfl, rfl⟩ | ⟨rfl, rfl⟩ | ⟨rfl, rfl⟩
  · rcases ht with ⟨rfl, rfl⟩ | ⟨M, m, rfl, hM, hm, rfl⟩ | ⟨M, m, S, s, rfl, hM, hm, hS, hs, rfl⟩
    · exact offset_n0 b H rest h hH hh hd hc w (by simpa using at0)
    · exact offset_n1 b H rest h hH hh M m hM hm hd hc w (by simpa using at0)
    · exact offset_n2 b H rest h hH hh M m hM hm S s hS hs hd hc w (by simpa using at0)
  · rcases ht with ⟨rfl, rfl⟩ | ⟨M, m, rfl, hM, hm, rfl⟩ | ⟨M, m, S, s, rfl, hM, hm, hS, hs, rfl⟩
    · exact offset_p0 b H rest h hH hh hd hc w (by simpa using at0)
    · exact offset_p1 b H rest h hH hh M m hM hm hd hc w (by simpa using at0)
    · exact offset_p2 b H rest h hH hh M m hM hm S s hS hs hd hc w (by simpa using at0)
  · rcases ht with ⟨rfl, rfl⟩ | ⟨M, m, rfl, hM, hm, rfl⟩ | ⟨M, m, S, s, rfl, hM, hm, hS, hs, rfl⟩
    · exact offset_m0 b H rest h hH hh hd hc w (by simpa using at0)
    · exact offset_m1 b H rest h hH hh M m hM hm hd hc w (by simpa using at0)
    · exact offset_m2 b H rest h hH hh M m hM hm S s hS hs hd hc w (by simpa using at0)
end Go.Proofs.YbulkbdvcDoor.W
