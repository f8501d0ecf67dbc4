import Derived.Test.Qxb6604022aDoorSmall2
import Derived.Test.Qxb6604022aDoorCbor0
namespace Go.Proofs.Qxb6604022aDoor
open Go.RowKit

/-- What the laws ask of zzCBORToJSON. -/
def CborSpec : Prop := ∀ (vb vd : Value) (lb ld : List UInt8) (pos : Int) (w : World), Cl w vb lb → Cl w vd ld → lb.length ≤ 1048576 → ld.length ≤ 1048576 → -9223372036854775808 ≤ pos → pos ≤ 9223372036854775807 →
  Calls Tryd.prog 7 #[vb, .int .i64 pos, vd] w fun e w' => CPost w.heap.size lb ld pos w e w'

theorem Below.up {A B : Nat} {w w' : World} (h : Below B w w') (hA : A ≤ B) : Below A w w' := ⟨h.os, h.tape, h.output, h.size, fun k hk => h.block k (by omega)⟩
theorem tab_on {w w' : World} {B : Nat} (h : Lib.TabIs Tryd.prog w powName .u64 Lib.pow10Tab) (hb : Below B w w') (hB : w.heap.size ≤ B) : Lib.TabBelow Tryd.prog w'.heap.size w' powName .u64 Lib.pow10Tab :=
  Lib.tabBelow_of_tabIs ((Lib.tabBelow_of_tabIs h).on (Below.up hb hB)).here
theorem Own.bytes {B : Nat} {w : World} {g cap n : Nat} {l : List UInt8} (h : Own B w (.slice (some ⟨g, 0, none⟩) n cap) l) (h0 : l ≠ []) : Bytes w g 0 l ∧ g < w.heap.size ∧ l.length ≤ cap ∧ n = l.length := by
  obtain ⟨g', cap', e, h1, h2, h3⟩ := h.cells h0
  cases e
  exact ⟨h3, h2, h1, rfl⟩

/-- A reading of a row of bytes. -/
theorem zz_law (f : Nat) (g off cap pn dl : Nat) (d : List UInt8) (vd : Value) (ld : List UInt8) (w : World) (t : List UInt8) (n : Nat) (hi : item f (d.drop pn) = some (t, n)) (hb : Bytes w g off d) (hg : g < w.heap.size) (hdl : dl = d.length) (hc : d.length ≤ cap) (hl : d.length ≤ 1048576) (hld : ld.length ≤ 1048576) (ho : Cl w vd ld)
    (htab : Lib.TabBelow Tryd.prog w.heap.size w powName .u64 Lib.pow10Tab) :
    Calls Tryd.prog 8 #[.slice (some ⟨g, off, none⟩) dl cap, .int .i64 (pn : Int), vd] w fun e w' => ∃ v', e = .returned (.tuple #[v', .int .i64 ((pn + n : Nat) : Int)]) ∧ Own w.heap.size w' v' (ld ++ t) ∧ Below w.heap.size w w' :=
  zz_any f w.heap.size g off cap pn d vd ld w t n hi (ho.own _) hb hg (Nat.le_refl _) hl hc (by omega) htab dl hdl

/-- The copy of a row that is not empty. -/
theorem Cl.some {w : World} {v : Value} {l : List UInt8} (h : Cl w v l) (h0 : l ≠ []) : ∃ g, v = .slice (some ⟨g, 0, none⟩) l.length l.length ∧ g < w.heap.size ∧ Bytes w g 0 l := by
  rcases h with ⟨_, rfl⟩ | h
  · exact (h0 rfl).elim
  · have hk := (Own.cells (B := 0) (.inr h) h0)
    obtain ⟨g, cur, rfl, _⟩ := h
    obtain ⟨g', cap', e, _, h2, h3⟩ := hk
    cases e
    exact ⟨_, rfl, h2, h3⟩

set_option maxHeartbeats 2000000 in
theorem law3 (hC : CborSpec) (v1 v2 : Value) (l1 l2 : List UInt8) (pos : Int) (w : World) (h1 : Arg w v1 l1) (h2 : Arg w v2 l2) (hm1 : l1.length ≤ maxLen) (hm2 : l2.length ≤ maxLen) (hp1 : -9223372036854775808 ≤ pos) (hp2 : pos ≤ 9223372036854775807) (htab : Lib.TabIs Tryd.prog w powName .u64 Lib.pow10Tab) :
    Calls Tryd.prog 3 #[v1, .int .i64 pos, v2] w fun e w' => e = .returned (.bool true) ∧ Below w.heap.size w w' := by
  obtain ⟨a1, n1, c1, rfl, HN1⟩ := h1.shape
  obtain ⟨a2, n2, c2, rfl, HN2⟩ := h2.shape
  have m1 : n1 ≤ maxLen := by rw [HN1.out]; exact hm1
  have m2 : n2 ≤ maxLen := by rw [HN2.out]; exact hm2
  have HC := hide hC
  have H1 := hide h1
  have H2 := hide h2
  have HT := hide htab
  have HZ := hide (size_any5 a1 a2 n1 c1 n2 c2 pos w m1 m2)
  unfold maxLen at m1 m2
  clear hC h1 h2 htab hm1 hm2
  go_enter Tryd.func3, Tryd.ntmps3
  go_wp2_with fail
  go_at_call 5
  refine HZ.out.mono ?_
  rintro e w' ⟨r, rfl, hw'⟩
  replace hw' := hw'.symm
  subst hw'
  clear HZ
  cases r with
  | false =>
    go_wp2
    go_ret
    exact ⟨rfl, Below.refl _ _⟩
  | true =>
    by_cases s1 : n1 ≤ 1048576
    · by_cases s2 : n2 ≤ 1048576
      · by_cases s3 : n1 + n2 ≤ 1048576
        · have d1 : ((1048576 : Int) < (n1 : Int)) = False := by simp; omega
          go_wp2_with fail
          go_at_call 6
          refine (clone_any _ l1 w H1.out (by rw [← HN1.out]; exact s1)).mono ?_
          rintro e w1 ⟨vb, rfl, hb, hb1⟩
          have HB := hide hb
          have HB1 := hide hb1
          clear hb hb1
          go_wp2_with fail
          go_at_call 6
          refine (clone_any _ l2 w1 (H2.out.below HB1.out) (by rw [← HN2.out]; exact s2)).mono ?_
          rintro e w2 ⟨vd, rfl, hd, hb2⟩
          have HVB := hide (HB.out.below hb2)
          have HVD := hide hd
          have HB2 := hide (HB1.out.trans (Below.up hb2 HB1.out.size))
          clear hd hb2 HB
          go_wp2_with fail
          go_at_call 7
          refine (HC.out vb vd l1 l2 pos w2 HVB.out HVD.out (by rw [← HN1.out]; exact s1) (by rw [← HN2.out]; exact s2) hp1 hp2).mono ?_
          rintro e w3 ⟨hb3, hres⟩
          have HB3 := hide (HB2.out.trans (Below.up hb3 HB2.out.size))
          rcases hres with ⟨v7, q7, rfl⟩ | ⟨v7, pn, f, t, n, rfl, rfl, hi, ho7⟩
          · clear hb3
            go_wp2
            go_ret
            exact ⟨rfl, HB3.out⟩
          · have hb := item_bnd f _ _ _ hi
            have hne := item_ne hi
            rw [List.length_drop] at hb
            have h0 : l1 ≠ [] := by rintro rfl; simp at hb; omega
            obtain ⟨g, rfl, hg, hby⟩ := (HVB.out.below hb3).some h0
            have HCALL := hide (zz_law f g 0 l1.length pn l1.length l1 vd l2 w3 t n hi hby hg rfl (Nat.le_refl _) (by rw [← HN1.out]; exact s1) (by rw [← HN2.out]; exact s2) (HVD.out.below hb3) (tab_on HT.out HB3.out (Nat.le_refl _)))
            have HO7 := hide ho7
            have hlt : (l2 ++ t).length ≤ 140737488355328 := by rw [List.length_append, ← HN2.out]; have := HN1.out; omega
            have HLT := hide hlt
            clear hb3 hi ho7 hby hlt
            go_wp2_with fail
            go_at_call 8
            go_fit HCALL.out
            rintro e w4 ⟨v8, rfl, ho8, hb4⟩
            have HB4 := hide (HB3.out.trans (Below.up hb4 HB3.out.size))
            have HEQ := hide (eq_any ho8 (HO7.out.below hb4 (Nat.le_refl _)) HLT.out)
            clear ho8 hb4
            go_wp2_with (go_at_call 9; refine HEQ.out.mono ?_; rintro e w5 ⟨rfl, hb5⟩)
            go_ret
            exact ⟨rfl, HB4.out.trans (Below.up hb5 HB4.out.size)⟩
        · go_wp2
          go_ret
          exact ⟨rfl, Below.refl _ _⟩
      · go_wp2
        go_ret
        exact ⟨rfl, Below.refl _ _⟩
    · go_wp2
      go_ret
      exact ⟨rfl, Below.refl _ _⟩
end Go.Proofs.Qxb6604022aDoor
