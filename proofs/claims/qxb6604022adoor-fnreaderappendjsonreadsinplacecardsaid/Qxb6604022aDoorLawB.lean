import Derived.Test.Qxb6604022aDoorLawA
namespace Go.Proofs.Qxb6604022aDoor
open Go.RowKit

theorem Cells.take {w : World} {g o : Nat} {a b : List UInt8} (h : Cells w g o (a ++ b)) : Cells w g o a := fun i hi => by
  rw [h i (by simp; omega), List.getElem_append_left hi]
theorem Cells.drop {w : World} {g o : Nat} {a b : List UInt8} (h : Cells w g o (a ++ b)) : Cells w g (o + a.length) b := fun i hi => by
  rw [Nat.add_assoc, h (a.length + i) (by simp; omega), List.getElem_append_right (by omega)]
  simp
theorem Cells.below {w w' : World} {g o : Nat} {l : List UInt8} (h : Cells w g o l) (hb : Below w.heap.size w w') (hg : g < w.heap.size) : Cells w' g o l := fun i hi => by
  rw [hb.cell hg]; exact h i hi

/-- The head of the row, and a copy. -/
theorem eq_head {w : World} {g cap : Nat} {a b : List UInt8} (h : Cells w g 0 (a ++ b)) {v : Value} (hv : Cl w v a) (ha : a.length ≤ 1048576) :
    Calls Tryd.prog 9 #[.slice (some ⟨g, 0, none⟩) a.length cap, v] w fun e w' => e = .returned (.bool true) ∧ Below w.heap.size w w' := by
  by_cases h0 : a = []
  · subst h0
    obtain ⟨a2, n2, c2, rfl, e2⟩ := hv.shape
    have e2 : n2 = 0 := e2.out
    subst e2
    exact eq_zero _ a2 cap c2 w
  · obtain ⟨g2, rfl, _, k2⟩ := hv.some h0
    exact eq_same g 0 g2 0 a.length cap a.length a w rfl (by omega) h.take k2

set_option maxHeartbeats 4000000 in
theorem law4 (hC : CborSpec) (v1 v2 : Value) (l1 l2 : List UInt8) (pos : Int) (w : World) (h1 : Arg w v1 l1) (h2 : Arg w v2 l2) (hm1 : l1.length ≤ maxLen) (hm2 : l2.length ≤ maxLen) (hp1 : -9223372036854775808 ≤ pos) (hp2 : pos ≤ 9223372036854775807) (htab : Lib.TabIs Tryd.prog w powName .u64 Lib.pow10Tab) :
    Calls Tryd.prog 4 #[v1, .int .i64 pos, v2] w fun e w' => e = .returned (.bool true) ∧ Below w.heap.size w w' := by
  obtain ⟨a1, n1, c1, rfl, HN1⟩ := h1.shape
  obtain ⟨a2, n2, c2, rfl, HN2⟩ := h2.shape
  have m1 : n1 ≤ maxLen := by rw [HN1.out]; exact hm1
  have m2 : n2 ≤ maxLen := by rw [HN2.out]; exact hm2
  have HC := hide hC
  have H1 := hide h1
  have H2 := hide h2
  have HT := hide htab
  have HZ := hide (size_any10 a1 a2 n1 c1 n2 c2 pos w m1 m2)
  unfold maxLen at m1 m2
  clear hC h1 h2 htab hm1 hm2
  go_enter Tryd.func4, Tryd.ntmps4
  go_wp2_with fail
  go_at_call 10
  refine HZ.out.mono ?_
  rintro e w' ⟨r, rfl, hw'⟩
  replace hw' := hw'.symm
  subst hw'
  clear HZ
  cases r with
  | false =>
    go_wp2
    go_ret
    exact ⟨rfl, Below.refl _ _⟩
  | true =>
    by_cases s1 : n1 ≤ 1048576
    · by_cases s2 : n2 ≤ 1048576
      · by_cases s3 : n1 + n2 ≤ 1048576
        · go_wp2_with fail
          go_at_call 6
          refine (clone_any _ l1 w H1.out (by rw [← HN1.out]; exact s1)).mono ?_
          rintro e w1 ⟨vb, rfl, hb, hb1⟩
          have HB := hide hb
          have HB1 := hide hb1
          clear hb hb1
          go_wp2_with fail
          go_at_call 6
          refine (clone_any _ l2 w1 (H2.out.below HB1.out) (by rw [← HN2.out]; exact s2)).mono ?_
          rintro e w2 ⟨vd, rfl, hd, hb2⟩
          have HVB := hide (HB.out.below hb2)
          have HVD := hide hd
          have HB2 := hide (HB1.out.trans (Below.up hb2 HB1.out.size))
          clear hd hb2 HB
          go_wp2_with fail
          go_at_call 7
          refine (HC.out vb (.slice none 0 0) l1 [] pos w2 HVB.out (.inl ⟨rfl, rfl⟩) (by rw [← HN1.out]; exact s1) (by simp) hp1 hp2).mono ?_
          rintro e w3 ⟨hb3, hres⟩
          have HB3 := hide (HB2.out.trans (Below.up hb3 HB2.out.size))
          rcases hres with ⟨v7, q7, rfl⟩ | ⟨v7, pn, f, t, n, rfl, rfl, hi, ho7⟩
          · clear hb3
            go_wp2
            go_ret
            exact ⟨rfl, HB3.out⟩
          · clear ho7
            have hb := item_bnd f _ _ _ hi
            have hne := item_ne hi
            rw [List.length_drop] at hb
            have h0 : l1 ≠ [] := by rintro rfl; simp at hb; omega
            have hs1 : l1.length ≤ 1048576 := by rw [← HN1.out]; exact s1
            have hs2 : l2.length ≤ 1048576 := by rw [← HN2.out]; exact s2
            have ht0 : t ≠ [] := by rintro rfl; simp at hne
            have HVD3 := hide (HVD.out.below hb3)
            have HHI := hide hi
            obtain ⟨g, rfl, hg, hby⟩ := (HVB.out.below hb3).some h0
            have HBY := hide hby
            have HCALL := hide (zz_law f g 0 l1.length pn l1.length l1 vd l2 w3 t n hi hby hg rfl (Nat.le_refl _) hs1 hs2 HVD3.out (tab_on HT.out HB3.out (Nat.le_refl _)))
            have HT0 := hide ht0
            clear hb3 hi hby ht0
            go_wp2_with fail
            go_at_call 8
            refine HCALL.out.mono ?_
            rintro e w4 ⟨v10, rfl, ho10, hb4⟩
            clear HCALL
            have HB4 := hide (HB3.out.trans (Below.up hb4 HB3.out.size))
            have HVD4 := hide (HVD3.out.below hb4)
            have HBY4 := hide (HBY.out.below hb4 hg)
            have hg4 : g < w4.heap.size := by have := hb4.size; omega
            obtain ⟨g10, cap10, rfl, hc10, hg10, k10⟩ := ho10.cells (by simp [HT0.out])
            have HK10 := hide k10
            clear ho10 hb4 k10 HBY HVD3
            rw [List.length_append] at hc10
            have HTK : Hid ((l1.take (pn + n)).length = pn + n) := hide (by rw [List.length_take]; omega)
            have HI2 : Hid (item f ((l1.take (pn + n)).drop pn) = some (t, n)) := hide (by
              rw [List.drop_take, Nat.add_sub_cancel_left]
              exact item_pre f _ _ _ _ HHI.out (Nat.le_refl _))
            have HBT : Hid (Bytes w4 g 0 (l1.take (pn + n))) := hide (fun i hi => by
              rw [HBY4.out i (by rw [List.length_take] at hi; omega)]
              simp)
            have HC2 := hide (zz_law f g 0 l1.length pn (pn + n) (l1.take (pn + n)) (.slice none 0 0) [] w4 t n HI2.out HBT.out hg4 HTK.out.symm (by rw [HTK.out]; omega) (by rw [HTK.out]; omega) (by simp) (.inl ⟨rfl, rfl⟩) (tab_on HT.out HB4.out (Nat.le_refl _)))
            go_wp2_with fail
            go_at_call 8
            refine HC2.out.mono ?_
            rintro e w5 ⟨v12, rfl, ho12, hb5⟩
            rw [List.nil_append] at ho12
            clear HC2
            have HB5 := hide (HB4.out.trans (Below.up hb5 HB4.out.size))
            have HVD5 := hide (HVD4.out.below hb5)
            have HBY5 := hide (HBY4.out.below hb5 hg4)
            have HK105 := hide (HK10.out.below hb5 hg10)
            have hg5 : g < w5.heap.size := by have := hb5.size; omega
            have hg105 : g10 < w5.heap.size := by have := hb5.size; omega
            obtain ⟨g12, cap12, rfl, hc12, hg12, k12⟩ := ho12.cells HT0.out
            have HK12 := hide k12
            clear ho12 hb5 k12 HBT HI2 HTK HBY4 HVD4 HK10
            have HTK : Hid (((l1.drop pn).take n).length = n) := hide (by rw [List.length_take, List.length_drop]; omega)
            have HI3 : Hid (item f ((((l1.drop pn).take n)).drop 0) = some (t, n)) := hide (item_pre f _ _ _ _ HHI.out (Nat.le_refl _))
            have HBT : Hid (Bytes w5 g pn ((l1.drop pn).take n)) := hide (fun i hi => by
              have h := HBY5.out (pn + i) (by rw [List.length_take, List.length_drop] at hi; omega)
              rw [Nat.zero_add] at h
              rw [h]
              simp)
            have HC3 := hide (zz_law f g pn (l1.length - pn) 0 n ((l1.drop pn).take n) (.slice none 0 0) [] w5 t n HI3.out HBT.out hg5 HTK.out.symm (by rw [HTK.out]; omega) (by rw [HTK.out]; omega) (by simp) (.inl ⟨rfl, rfl⟩) (tab_on HT.out HB5.out (Nat.le_refl _)))
            have hne1 : ¬ l1.length = pn := by omega
            go_wp2_with fail
            go_at_call 8
            refine HC3.out.mono ?_
            rintro e w6 ⟨v14, rfl, ho14, hb6⟩
            rw [List.nil_append] at ho14
            clear HC3
            have HB6 := hide (HB5.out.trans (Below.up hb6 HB5.out.size))
            have HVD6 := hide (HVD5.out.below hb6)
            have HK106 := hide (HK105.out.below hb6 hg105)
            have HK126 := hide (HK12.out.below hb6 hg12)
            have hg106 : g10 < w6.heap.size := by have := hb6.size; omega
            have hg126 : g12 < w6.heap.size := by have := hb6.size; omega
            obtain ⟨g14, cap14, rfl, hc14, hg14, k14⟩ := ho14.cells HT0.out
            have htb : t.length ≤ 140737488355328 := by omega
            have HE1 := hide (eq_same g12 0 g14 0 t.length cap12 cap14 t w6 rfl htb HK126.out k14)
            clear ho14 hb6 k14 HBT HI3 HTK HBY5 HVD5 HK105 HK12
            obtain ⟨da, dn, dc, rfl, HDN⟩ := HVD.out.shape
            go_wp2_with fail
            go_at_call 9
            refine HE1.out.mono ?_
            rintro e w7 ⟨rfl, hb7⟩
            clear HE1
            have HB7 := hide (HB6.out.trans (Below.up hb7 HB6.out.size))
            have HVD7 := hide (HVD6.out.below hb7)
            have HK107 := hide (HK106.out.below hb7 hg106)
            have HK127 := hide (HK126.out.below hb7 hg126)
            have hg107 : g10 < w7.heap.size := by have := hb7.size; omega
            have hg127 : g12 < w7.heap.size := by have := hb7.size; omega
            have HE2 := hide (eq_head (cap := cap10) HK107.out HVD7.out hs2)
            have hdn : dn = l2.length := HDN.out
            subst hdn
            clear hb7 HVD6 HK106 HK126
            have hne2 : ¬ cap10 = l2.length := by omega
            go_wp2_with fail
            go_at_call 9
            go_fit HE2.out
            rintro e w8 ⟨rfl, hb8⟩
            have HB8 := hide (HB7.out.trans (Below.up hb8 HB7.out.size))
            have HE3 := hide (eq_same g10 (0 + l2.length) g12 0 t.length (cap10 - l2.length) cap12 t w8 rfl htb (HK107.out.drop.below hb8 hg107) (HK127.out.below hb8 hg127))
            rw [Nat.zero_add] at HE3
            clear hb8
            go_wp2_with (go_at_call 9; refine HE3.out.mono ?_; rintro e w9 ⟨rfl, hb9⟩)
            go_ret
            exact ⟨rfl, HB8.out.trans (Below.up hb9 HB8.out.size)⟩
        · go_wp2
          go_ret
          exact ⟨rfl, Below.refl _ _⟩
      · go_wp2
        go_ret
        exact ⟨rfl, Below.refl _ _⟩
    · go_wp2
      go_ret
      exact ⟨rfl, Below.refl _ _⟩
end Go.Proofs.Qxb6604022aDoor
