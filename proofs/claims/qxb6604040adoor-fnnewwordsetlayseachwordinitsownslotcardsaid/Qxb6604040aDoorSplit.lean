import Derived.Test.Qxb6604040aDoorKey
import Derived.Lib.FieldsLaws
namespace Go.Proofs.Qxb6604040aDoor
open Go.RowKit

theorem sp_isSp (c : UInt8) : spB c.toNat = Lib.isSp c := by
  unfold spB Lib.isSp
  rw [Bool.eq_iff_iff]
  simp [← UInt8.toNat_inj]
  omega

theorem Tryd.info9 : (Tryd.prog.info? 9).map (fun i => (i.zero, i.size, i.bytes)) = some (some (.string ⟨#[]⟩), 1, 16) := by kernel_rfl

theorem hide {p : Prop} (h : p) : Hid p := h
def bs (l : List UInt8) : Value := .string ⟨l.toArray⟩

theorem ext_bs (s : ByteArray) (k q : Nat) : Value.string (s.extract k q) = bs ((s.data.toList.drop k).take (q - k)) := by
  have h := ByteArray.extract_mk s.data.toList k q
  unfold bs
  rw [← h]
theorem one_at (W : World) (x : Value) (t : TypeId) (j : Nat) (u : Value) (h : [x][j]? = some u) : (W.alloc (.cells #[x] t)).cell? ((⟨W.heap.size, 0, none⟩ : Addr).add j) = some u := by
  match j, h with
  | 0, h => simp at h; subst h; simp [Addr.add]
theorem one_cell (x : ByteArray) (u : Value) (hu : u ∈ [Value.string x]) : u.oneCell' = true := by simp at hu; subst hu; rfl
theorem rel_app {w wr w1 : World} {v v' : Value} {n : Nat} {xs ys : List Value} {o : Obj} (hown : wr.ownsRow w.heap.size 9 1 v n xs) (hb : Below w.heap.size w wr)
    (hown' : w1.ownsRow w.heap.size 9 1 v' (n + 1) (xs ++ ys)) (hg : (wr.alloc o).grownBy w1 v.ownBlock) : w1.ownsRow w.heap.size 9 1 v' (n + 1) (xs ++ ys) ∧ Below w.heap.size w w1 :=
  ⟨hown', (hb.alloc hb.size _).grown hg (by have := hb.size; simp; omega) (fun k hk => (hown.lt k hk).1)⟩
set_option maxHeartbeats 400000 in
theorem splitWords_any (s : ByteArray) (w : World) (hs : s.size ≤ 65536) :
    Calls Tryd.prog 21 #[.string s] w fun e w' => ∃ v, e = .returned v ∧ w'.ownsRow w.heap.size 9 1 v (Lib.fields s.data.toList).length ((Lib.fields s.data.toList).map bs) ∧ Below w.heap.size w w' := by
  obtain ⟨i0, hi, hz0, hz1, hz2⟩ := info_parts Tryd.info9
  go_enter Tryd.func21, Tryd.ntmps21
  go_wp2
  go_loopw [3, 4] (fun v i wr => ∃ (k : Nat) (D : List (List UInt8)), k ≤ s.size ∧ D.length ≤ k ∧ i = .int .i64 k ∧ Hid (Lib.fields s.data.toList = D ++ Lib.fieldsGo [] (s.data.toList.drop k)) ∧
      wr.ownsRow w.heap.size 9 1 v D.length (D.map bs) ∧ Below w.heap.size w wr) (fun _ i _ => s.size - (intOf i).toNat)
  case atStart => exact ⟨0, [], Nat.zero_le _, Nat.zero_le _, rfl, hide rfl, World.ownsRow_nil _ _ _ _, Below.refl _ _⟩
  case round =>
    obtain ⟨k, D, hk, hD, rfl, HF, hown, hb⟩ := hrel
    by_cases hlt : k < s.size
    · have hat : s.data.toList[k]? = some s[k] := by
        rw [List.getElem?_eq_getElem (by simpa using hlt)]; rfl
      have hdr := Lib.drop_at hat
      by_cases h1 : spB s[k].toNat = true
      · have HS : Hid (Lib.fieldsGo [] (s.data.toList.drop k) = Lib.fieldsGo [] (s.data.toList.drop (k + 1))) := hide (by
          rw [hdr]; exact Lib.fieldsGo_sp _ _ (by rw [← sp_isSp]; exact h1))
        clear hat hdr
        go_wp2_with (first | (go_at_call 29; refine (isSpace_any _ _).mono ?_; rintro e w' ⟨rfl, rfl⟩))
        go_roundw
        case rel => exact ⟨k + 1, D, by omega, by omega, by go_num, hide (by rw [HF.out, HS.out]), hown, hb⟩
        case measure => simp [intOf]; omega
      · have h1' : spB s[k].toNat = false := by simpa using h1
        clear h1
        clear hat hdr
        go_wp2_with (first | (go_at_call 29; refine (isSpace_any _ _).mono ?_; rintro e w' ⟨rfl, rfl⟩))
        go_loop [5] (fun j => ∃ q : Nat, k ≤ q ∧ q ≤ s.size ∧ j = .int .i64 q ∧ Hid (Lib.fieldsGo [] (s.data.toList.drop k) = Lib.fieldsGo ((s.data.toList.drop k).take (q - k)) (s.data.toList.drop q))) (fun j => s.size - (intOf j).toNat)
        case atStart => exact ⟨k, Nat.le_refl _, hk, rfl, hide (by simp)⟩
        case round =>
          obtain ⟨q, hkq, hq, rfl, HQ⟩ := hrel
          by_cases hqs : q < s.size
          · have hat : s.data.toList[q]? = some s[q] := by
              rw [List.getElem?_eq_getElem (by simpa using hqs)]; rfl
            have hdr := Lib.drop_at hat
            by_cases h2 : spB s[q].toNat = true
            · have hkq' : k < q := by
                rcases Nat.lt_or_eq_of_le hkq with h | h
                · exact h
                · subst h; rw [h1'] at h2; cases h2
              have HX : Hid (Lib.fieldsGo [] (s.data.toList.drop k) = (s.data.toList.drop k).take (q - k) :: Lib.fieldsGo [] (s.data.toList.drop q)) := hide (by
                rw [HQ.out, hdr, Lib.fieldsGo_end _ _ _ (by rw [← sp_isSp]; exact h2) (Lib.piece_ne hkq' (by simpa using hq)), Lib.fieldsGo_sp _ _ (by rw [← sp_isSp]; exact h2)])
              clear hat hdr
              go_wp2_with (first | (go_at_call 29; refine (isSpace_any _ _).mono ?_; rintro e w' ⟨rfl, rfl⟩) | (at_builtin; refine wpList_append_own _ rfl (.tmp 30) (.tmp 35) 23 rfl w.heap.size 9 i0 (.string ⟨#[]⟩) 1 16 Tryd.underlying23 hi hz0 hz1 hz2 rfl (by decide) _ _ _ rfl (hown.alloc _) ⟨_, 0, none⟩ 1 1 [.string (s.extract k q)] rfl rfl (one_at _ _ _) (one_cell _) (by unfold maxLen; omega) (by omega) (by have := hb.size; simp; omega) ?_; intro v' w1 hown' hgrow _; have R := rel_app hown hb hown' hgrow; clear hown hb hown' hgrow))
              go_roundw
              case rel => exact ⟨q, D ++ [(s.data.toList.drop k).take (q - k)], by omega, by simp; omega, rfl, hide (by rw [HF.out, HX.out]; simp), by simpa [ext_bs] using R.1, R.2⟩
              case measure => simp [intOf]; omega

            · have h2' : spB s[q].toNat = false := by simpa using h2
              have HX : Hid (Lib.fieldsGo [] (s.data.toList.drop k) = Lib.fieldsGo ((s.data.toList.drop k).take (q + 1 - k)) (s.data.toList.drop (q + 1))) := hide (by
                rw [HQ.out, hdr, Lib.fieldsGo_more _ _ _ (by rw [← sp_isSp]; exact h2'), Lib.piece_more hkq hat])
              clear hat hdr h2
              go_wp2_with (first | (go_at_call 29; refine (isSpace_any _ _).mono ?_; rintro e w' ⟨rfl, rfl⟩))
              go_round
              case rel => exact ⟨q + 1, by omega, by omega, by go_num, HX⟩
              case measure => simp [intOf]; omega
          · obtain rfl : q = s.size := by omega
            have HX : Hid (Lib.fieldsGo [] (s.data.toList.drop k) = (s.data.toList.drop k).take (s.size - k) :: Lib.fieldsGo [] (s.data.toList.drop s.size)) := hide (by
              have e := HQ.out
              have e2 : s.data.toList.drop s.size = [] := List.drop_of_length_le (by simp)
              rw [e2] at e ⊢
              have hne := Lib.piece_ne (l := s.data.toList) hlt (by simp)
              rw [e]
              cases hp : (s.data.toList.drop k).take (s.size - k) with
              | nil => exact absurd hp hne
              | cons a b => simp [Lib.fieldsGo])
            go_wp2_with (first | (go_at_call 29; refine (isSpace_any _ _).mono ?_; rintro e w' ⟨rfl, rfl⟩) | (at_builtin; refine wpList_append_own _ rfl (.tmp 30) (.tmp 35) 23 rfl w.heap.size 9 i0 (.string ⟨#[]⟩) 1 16 Tryd.underlying23 hi hz0 hz1 hz2 rfl (by decide) _ _ _ rfl (hown.alloc _) ⟨_, 0, none⟩ 1 1 [.string (s.extract k s.size)] rfl rfl (one_at _ _ _) (one_cell _) (by unfold maxLen; omega) (by omega) (by have := hb.size; simp; omega) ?_; intro v' w1 hown' hgrow _; have R := rel_app hown hb hown' hgrow; clear hown hb hown' hgrow))
            go_roundw
            case rel => exact ⟨s.size, D ++ [(s.data.toList.drop k).take (s.size - k)], by omega, by simp; omega, rfl, hide (by rw [HF.out, HX.out]; simp), by simpa [ext_bs] using R.1, R.2⟩
            case measure => simp [intOf]; omega

    · go_wp2
      go_ret
      refine ⟨_, rfl, ?_, hb⟩
      have e2 : s.data.toList.drop k = [] := List.drop_of_length_le (by simp; omega)
      have e3 := HF.out
      rw [e2] at e3
      have e4 : Lib.fields s.data.toList = D := by rw [e3]; simp [Lib.fieldsGo]
      rw [e4]
      exact hown
end Go.Proofs.Qxb6604040aDoor
