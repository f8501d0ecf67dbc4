import Derived.Test.Qxb6604022aDoorEsc2
import Derived.Deep.MidRow
namespace Go.Proofs.Qxb6604022aDoor
open Go.RowKit

/-- These bytes lie from offset o of block b on. -/
def Bytes (w : World) (b o : Nat) (l : List UInt8) : Prop := ∀ i (h : i < l.length), w.cell? ⟨b, o + i, none⟩ = some (.int .u8 l[i].toNat)
theorem Bytes.kept {B : Nat} {w w' : World} {b o : Nat} {l : List UInt8} (h : Bytes w b o l) (hk : Kept B w w') (hb : b < B) : Bytes w' b o l := fun i hi => by
  rw [hk.cell hb]; exact h i hi
theorem Bytes.below {B : Nat} {w w' : World} {b o : Nat} {l : List UInt8} (h : Bytes w b o l) (hk : Below B w w') (hb : b < B) : Bytes w' b o l := fun i hi => by
  rw [hk.cell hb]; exact h i hi
theorem Bytes.part {w : World} {b o : Nat} {l : List UInt8} (h : Bytes w b o l) (k m : Nat) (hm : k + m ≤ l.length) (j : Nat) (u : Value) (hj : (Lib.byteCells ((l.drop k).take m))[j]? = some u) : w.cell? ((⟨b, o + k, none⟩ : Addr).add j) = some u := by
  have hl : j < ((l.drop k).take m).length := by have := (List.getElem?_eq_some_iff.1 hj).1; rwa [Lib.byteCells_length] at this
  have h1 : (Lib.byteCells ((l.drop k).take m))[j]? = some (.int .u8 (((l.drop k).take m)[j]).toNat) := by
    unfold Lib.byteCells
    rw [List.getElem?_map, List.getElem?_eq_getElem hl]
    rfl
  rw [h1] at hj
  cases hj
  have hl2 : k + j < l.length := by simp at hl; omega
  rw [Addr.add_mid, show o + k + j = o + (k + j) from by omega, h (k + j) hl2]
  simp

theorem escs_append (l m : List UInt8) : escs (l ++ m) = escs l ++ escs m := by simp [escs]
theorem escs_one (c : UInt8) : escs [c] = esc c := by simp [escs]
theorem take_succ' (l : List UInt8) (k : Nat) (h : k < l.length) : l.take (k + 1) = l.take k ++ [l[k]] := List.take_succ_eq_append_getElem h
/-- plain from st to k: what is flushed is what escaping gives -/
theorem flush_eq (l : List UInt8) (st k : Nat) (hst : st ≤ k) (hp : escs ((l.drop st).take (k - st)) = (l.drop st).take (k - st)) : escs (l.take st) ++ (l.drop st).take (k - st) = escs (l.take k) := by
  have e : l.take k = l.take st ++ (l.drop st).take (k - st) := by
    rw [← List.take_add, show st + (k - st) = k from by omega]
  rw [e, escs_append, hp]
theorem plain_more (l : List UInt8) (st k : Nat) (hst : st ≤ k) (h : k < l.length) (hp : escs ((l.drop st).take (k - st)) = (l.drop st).take (k - st)) (hc : esc l[k] = [l[k]]) :
    escs ((l.drop st).take (k + 1 - st)) = (l.drop st).take (k + 1 - st) := by
  have e : (l.drop st).take (k + 1 - st) = (l.drop st).take (k - st) ++ [l[k]] := by
    rw [show k + 1 - st = (k - st) + 1 from by omega, List.take_succ_eq_append_getElem (by simp; omega)]
    simp [show st + (k - st) = k from by omega]
  rw [e, escs_append, hp, escs_one, hc]
theorem flush_len (l : List UInt8) (st k : Nat) (hst : st ≤ k) (hk : k ≤ l.length) : k - st = ((l.drop st).take (k - st)).length := by simp; omega

set_option maxHeartbeats 2000000 in
theorem str_some (B : Nat) (v : Value) (bs tx : List UInt8) (bd o n c : Nat) (w : World) (hn : n = tx.length) (hnc : n ≤ c) (hn0 : 0 < n) (hn1 : n ≤ 1048576) (hown : Own B w v bs) (hB : B ≤ w.heap.size) (hbd : bd < B) (htx : Bytes w bd o tx) (hlim : bs.length + 6 * n + 40 ≤ 140737488355328) :
    Calls Tryd.prog 18 #[v, .slice (some ⟨bd, o, none⟩) n c] w fun e w' => App B w bs (34 :: (escs tx ++ [34])) e w' := by
  obtain ⟨a, m, cp, rfl, _⟩ := hown.shape
  have HO := hide hown
  have HN := hide hn
  have HT := hide htx
  clear hown hn htx
  go_enter Tryd.func18, Tryd.ntmps18
  go_wp2_with (at_builtin; refine wpList_app rfl (.tmp 8) (.tmp 9) rfl B _ bs rfl (HO.out.alloc _) [34] ⟨_, 0, none⟩ 1 1 rfl rfl (lit_cells _ [34] 5) (by simp; omega) (by simp; omega) ?_; intro v1 w1 hown1 hk1)
  have HK1 : Hid (Kept B w w1) := hide (((Kept.refl _ _).alloc hB _).trans hk1)
  have HO1 := hide hown1
  clear hown1 hk1
  go_loopw [0, 5, 13] (fun v s i wr => ∃ st k : Nat, st ≤ k ∧ k ≤ n ∧ s = .int .i64 st ∧ i = .int .i64 k ∧ Hid (Own B wr v (bs ++ 34 :: escs (tx.take st))) ∧ Hid (escs ((tx.drop st).take (k - st)) = (tx.drop st).take (k - st)) ∧ Hid (Kept B w wr)) (fun _ _ i _ => n - (intOf i).toNat)
  case atStart => exact ⟨0, 0, Nat.le_refl _, Nat.zero_le _, rfl, rfl, HO1, hide (by simp [escs]), HK1⟩
  case round =>
    clear HO1 HK1
    obtain ⟨st, k, hst, hk, rfl, rfl, HOW, HPL, HK⟩ := hrel
    by_cases hlt : k < n
    · have hkl : k < tx.length := by have := HN.out; omega
      have c1 := (HT.out.kept HK.out hbd) k hkl
      have HPM := hide (plain_more tx st k hst hkl HPL.out)
      have HFL := hide (flush_eq tx st k hst HPL.out)
      have HFN := hide (flush_len tx st k hst (by omega))
      have HTS := hide (take_succ' tx k hkl)
      obtain ⟨x, ex⟩ : ∃ x, x = tx[k] := ⟨_, rfl⟩
      rw [← ex] at c1 HPM HTS
      clear ex
      by_cases hpl : ¬ x.toNat < 32 ∧ x ≠ 34 ∧ x ≠ 92
      · obtain ⟨h32, h34, h92⟩ := hpl
        have n34 := ne_toNat (k := 34) h34
        have n92 := ne_toNat (k := 92) h92
        have HP2 := hide (HPM.out (esc_plain x h34 h92 h32))
        have b34 : ((x.toNat : Int) != 34) = true := by simp; omega
        have b92 : ((x.toNat : Int) != 92) = true := by simp; omega
        clear h34 h92
        go_wp2
        go_roundw
        case rel => exact ⟨st, k + 1, by omega, by omega, rfl, by go_num, HOW, HP2, HK⟩
        case measure => simp [intOf]; omega
      · have hcs : ¬ c = st := by omega
        have HBY := hide ((HT.out.kept HK.out hbd).part st (k - st) (by omega))
        have HLB : Hid ((bs ++ 34 :: escs (tx.take st)).length + (k - st) + 20 ≤ 140737488355328) := hide (by
          have h1 := escs_len (tx.take st)
          rw [List.length_take] at h1
          simp only [List.length_append, List.length_cons]
          omega)
        rw [HFN.out] at HLB
        have HLB2 : Hid ((bs ++ 34 :: escs (tx.take k)).length + 6 ≤ 140737488355328) := hide (by
          have h1 := escs_len (tx.take k)
          rw [List.length_take] at h1
          simp only [List.length_append, List.length_cons]
          omega)
        have HSZ : Hid (B ≤ wr.heap.size) := hide (by have := HK.out.size; omega)
        by_cases h34 : x = 34
        · subst h34
          go_wp2_with (first | (at_builtin; refine wpList_app rfl (.tmp 28) (.tmp 32) rfl B _ (bs ++ 34 :: escs (tx.take st)) rfl HOW.out ((tx.drop st).take (k - st)) ⟨bd, o + st, none⟩ (k - st) (c - st) HFN.out rfl HBY.out (by have := HLB.out; omega) HSZ.out ?_; intro v2 w2 hown2 hk2) | (at_builtin; refine wpList_app rfl (.tmp 44) (.tmp 46) rfl B _ (bs ++ 34 :: escs (tx.take k)) rfl (Own.alloc (by have h := hown2; rw [List.append_assoc, List.cons_append, HFL.out] at h; exact h) _) [92, 34] ⟨_, 0, none⟩ 2 2 rfl rfl (lit_cells _ [92, 34] 5) (by have := HLB2.out; simp at this ⊢; omega) (by have := hk2.size; have := HSZ.out; simp; omega) ?_; intro v3 w3 hown3 hk3))
          go_roundw
          case rel =>
            refine ⟨k + 1, k + 1, Nat.le_refl _, by omega, by go_num, by go_num, hide ?_, hide (by simp [escs]), hide (HK.out.trans (hk2.trans (((Kept.refl _ _).alloc (by have := hk2.size; have := HSZ.out; omega) _).trans hk3)))⟩
            have h := hown3
            rw [List.append_assoc, List.cons_append] at h
            rw [HTS.out, escs_append, escs_one]
            exact h
          case measure => simp [intOf]; omega
        by_cases h92 : x = 92
        · subst h92
          go_wp2_with (first | (at_builtin; refine wpList_app rfl (.tmp 28) (.tmp 32) rfl B _ (bs ++ 34 :: escs (tx.take st)) rfl HOW.out ((tx.drop st).take (k - st)) ⟨bd, o + st, none⟩ (k - st) (c - st) HFN.out rfl HBY.out (by have := HLB.out; omega) HSZ.out ?_; intro v2 w2 hown2 hk2) | (at_builtin; refine wpList_app rfl (.tmp 44) (.tmp 46) rfl B _ (bs ++ 34 :: escs (tx.take k)) rfl (Own.alloc (by have h := hown2; rw [List.append_assoc, List.cons_append, HFL.out] at h; exact h) _) [92, 92] ⟨_, 0, none⟩ 2 2 rfl rfl (lit_cells _ [92, 92] 5) (by have := HLB2.out; simp at this ⊢; omega) (by have := hk2.size; have := HSZ.out; simp; omega) ?_; intro v3 w3 hown3 hk3))
          go_roundw
          case rel =>
            refine ⟨k + 1, k + 1, Nat.le_refl _, by omega, by go_num, by go_num, hide ?_, hide (by simp [escs]), hide (HK.out.trans (hk2.trans (((Kept.refl _ _).alloc (by have := hk2.size; have := HSZ.out; omega) _).trans hk3)))⟩
            have h := hown3
            rw [List.append_assoc, List.cons_append] at h
            rw [HTS.out, escs_append, escs_one]
            exact h
          case measure => simp [intOf]; omega
        by_cases h8 : x = 8
        · subst h8
          go_wp2_with (first | (at_builtin; refine wpList_app rfl (.tmp 28) (.tmp 32) rfl B _ (bs ++ 34 :: escs (tx.take st)) rfl HOW.out ((tx.drop st).take (k - st)) ⟨bd, o + st, none⟩ (k - st) (c - st) HFN.out rfl HBY.out (by have := HLB.out; omega) HSZ.out ?_; intro v2 w2 hown2 hk2) | (at_builtin; refine wpList_appS rfl (.tmp 50) (.const (.string ⟨#[92, 98]⟩)) rfl B _ (bs ++ 34 :: escs (tx.take k)) rfl (by have h := hown2; rw [List.append_assoc, List.cons_append, HFL.out] at h; exact h) [92, 98] rfl (by have := HLB2.out; simp at this ⊢; omega) (by have := hk2.size; have := HSZ.out; omega) ?_; intro v3 w3 hown3 hk3))
          go_roundw
          case rel =>
            refine ⟨k + 1, k + 1, Nat.le_refl _, by omega, by go_num, by go_num, hide ?_, hide (by simp [escs]), hide (HK.out.trans (hk2.trans hk3))⟩
            have h := hown3
            rw [List.append_assoc, List.cons_append] at h
            rw [HTS.out, escs_append, escs_one]
            exact h
          case measure => simp [intOf]; omega
        by_cases h12 : x = 12
        · subst h12
          go_wp2_with (first | (at_builtin; refine wpList_app rfl (.tmp 28) (.tmp 32) rfl B _ (bs ++ 34 :: escs (tx.take st)) rfl HOW.out ((tx.drop st).take (k - st)) ⟨bd, o + st, none⟩ (k - st) (c - st) HFN.out rfl HBY.out (by have := HLB.out; omega) HSZ.out ?_; intro v2 w2 hown2 hk2) | (at_builtin; refine wpList_appS rfl (.tmp 54) (.const (.string ⟨#[92, 102]⟩)) rfl B _ (bs ++ 34 :: escs (tx.take k)) rfl (by have h := hown2; rw [List.append_assoc, List.cons_append, HFL.out] at h; exact h) [92, 102] rfl (by have := HLB2.out; simp at this ⊢; omega) (by have := hk2.size; have := HSZ.out; omega) ?_; intro v3 w3 hown3 hk3))
          go_roundw
          case rel =>
            refine ⟨k + 1, k + 1, Nat.le_refl _, by omega, by go_num, by go_num, hide ?_, hide (by simp [escs]), hide (HK.out.trans (hk2.trans hk3))⟩
            have h := hown3
            rw [List.append_assoc, List.cons_append] at h
            rw [HTS.out, escs_append, escs_one]
            exact h
          case measure => simp [intOf]; omega
        by_cases h10 : x = 10
        · subst h10
          go_wp2_with (first | (at_builtin; refine wpList_app rfl (.tmp 28) (.tmp 32) rfl B _ (bs ++ 34 :: escs (tx.take st)) rfl HOW.out ((tx.drop st).take (k - st)) ⟨bd, o + st, none⟩ (k - st) (c - st) HFN.out rfl HBY.out (by have := HLB.out; omega) HSZ.out ?_; intro v2 w2 hown2 hk2) | (at_builtin; refine wpList_appS rfl (.tmp 58) (.const (.string ⟨#[92, 110]⟩)) rfl B _ (bs ++ 34 :: escs (tx.take k)) rfl (by have h := hown2; rw [List.append_assoc, List.cons_append, HFL.out] at h; exact h) [92, 110] rfl (by have := HLB2.out; simp at this ⊢; omega) (by have := hk2.size; have := HSZ.out; omega) ?_; intro v3 w3 hown3 hk3))
          go_roundw
          case rel =>
            refine ⟨k + 1, k + 1, Nat.le_refl _, by omega, by go_num, by go_num, hide ?_, hide (by simp [escs]), hide (HK.out.trans (hk2.trans hk3))⟩
            have h := hown3
            rw [List.append_assoc, List.cons_append] at h
            rw [HTS.out, escs_append, escs_one]
            exact h
          case measure => simp [intOf]; omega
        by_cases h13 : x = 13
        · subst h13
          go_wp2_with (first | (at_builtin; refine wpList_app rfl (.tmp 28) (.tmp 32) rfl B _ (bs ++ 34 :: escs (tx.take st)) rfl HOW.out ((tx.drop st).take (k - st)) ⟨bd, o + st, none⟩ (k - st) (c - st) HFN.out rfl HBY.out (by have := HLB.out; omega) HSZ.out ?_; intro v2 w2 hown2 hk2) | (at_builtin; refine wpList_appS rfl (.tmp 62) (.const (.string ⟨#[92, 114]⟩)) rfl B _ (bs ++ 34 :: escs (tx.take k)) rfl (by have h := hown2; rw [List.append_assoc, List.cons_append, HFL.out] at h; exact h) [92, 114] rfl (by have := HLB2.out; simp at this ⊢; omega) (by have := hk2.size; have := HSZ.out; omega) ?_; intro v3 w3 hown3 hk3))
          go_roundw
          case rel =>
            refine ⟨k + 1, k + 1, Nat.le_refl _, by omega, by go_num, by go_num, hide ?_, hide (by simp [escs]), hide (HK.out.trans (hk2.trans hk3))⟩
            have h := hown3
            rw [List.append_assoc, List.cons_append] at h
            rw [HTS.out, escs_append, escs_one]
            exact h
          case measure => simp [intOf]; omega
        by_cases h9 : x = 9
        · subst h9
          go_wp2_with (first | (at_builtin; refine wpList_app rfl (.tmp 28) (.tmp 32) rfl B _ (bs ++ 34 :: escs (tx.take st)) rfl HOW.out ((tx.drop st).take (k - st)) ⟨bd, o + st, none⟩ (k - st) (c - st) HFN.out rfl HBY.out (by have := HLB.out; omega) HSZ.out ?_; intro v2 w2 hown2 hk2) | (at_builtin; refine wpList_appS rfl (.tmp 66) (.const (.string ⟨#[92, 116]⟩)) rfl B _ (bs ++ 34 :: escs (tx.take k)) rfl (by have h := hown2; rw [List.append_assoc, List.cons_append, HFL.out] at h; exact h) [92, 116] rfl (by have := HLB2.out; simp at this ⊢; omega) (by have := hk2.size; have := HSZ.out; omega) ?_; intro v3 w3 hown3 hk3))
          go_roundw
          case rel =>
            refine ⟨k + 1, k + 1, Nat.le_refl _, by omega, by go_num, by go_num, hide ?_, hide (by simp [escs]), hide (HK.out.trans (hk2.trans hk3))⟩
            have h := hown3
            rw [List.append_assoc, List.cons_append] at h
            rw [HTS.out, escs_append, escs_one]
            exact h
          case measure => simp [intOf]; omega
        have h32 : x.toNat < 32 := by
          apply Classical.byContradiction
          intro h
          exact hpl ⟨h, h34, h92⟩
        have HE := hide (esc_ctl x h34 h92 h8 h12 h10 h13 h9 h32)
        have n34 := ne_toNat (k := 34) h34
        have n92 := ne_toNat (k := 92) h92
        have n8 := ne_toNat (k := 8) h8
        have n12 := ne_toNat (k := 12) h12
        have n10 := ne_toNat (k := 10) h10
        have n13 := ne_toNat (k := 13) h13
        have n9 := ne_toNat (k := 9) h9
        clear h34 h92 h8 h12 h10 h13 h9 hpl
        go_wp2_with (first | (at_builtin; refine wpList_app rfl (.tmp 28) (.tmp 32) rfl B _ (bs ++ 34 :: escs (tx.take st)) rfl HOW.out ((tx.drop st).take (k - st)) ⟨bd, o + st, none⟩ (k - st) (c - st) HFN.out rfl HBY.out (by have := HLB.out; omega) HSZ.out ?_; intro v2 w2 hown2 hk2) | (go_at_call 22; refine (appEsc_any B _ (bs ++ 34 :: escs (tx.take k)) x.toNat _ h32 (by have h := hown2; rw [List.append_assoc, List.cons_append, HFL.out] at h; exact h) (by have := hk2.size; have := HSZ.out; omega) HLB2.out).mono ?_; rintro e w3 ⟨v3, rfl, hown3, hk3⟩))
        rw [← HE.out] at hown3
        go_roundw
        case rel =>
          refine ⟨k + 1, k + 1, Nat.le_refl _, by omega, by go_num, by go_num, hide ?_, hide (by simp [escs]), hide (HK.out.trans (hk2.trans hk3))⟩
          have h := hown3
          rw [List.append_assoc, List.cons_append] at h
          rw [HTS.out, escs_append, escs_one]
          exact h
        case measure => simp [intOf]; omega
    · obtain rfl : k = n := by omega
      have HSZ : Hid (B ≤ wr.heap.size) := hide (by have := HK.out.size; omega)
      have HFL : Hid (escs (tx.take st) ++ (tx.drop st).take (k - st) = escs tx) := hide (by
        rw [flush_eq tx st k hst HPL.out, List.take_of_length_le (by rw [HN.out]; exact Nat.le_refl _)])
      have HFN := hide (flush_len tx st k hst (by rw [HN.out]; exact Nat.le_refl _))
      have HLB : Hid ((bs ++ 34 :: escs (tx.take st)).length + (k - st) + 20 ≤ 140737488355328) := hide (by
        have h1 := escs_len (tx.take st)
        have h2 := HN.out
        rw [List.length_take] at h1
        simp only [List.length_append, List.length_cons]
        omega)
      rw [HFN.out] at HLB
      have HLB2 : Hid ((bs ++ 34 :: escs tx).length + 6 ≤ 140737488355328) := hide (by
        have h1 := escs_len tx
        have h2 := HN.out
        simp only [List.length_append, List.length_cons]
        omega)
      by_cases hcs : c = st
      · obtain rfl : st = k := by omega
        subst hcs
        have HFL2 : Hid (escs (tx.take c) = escs tx) := hide (by
          have h := HFL.out
          rw [Nat.sub_self, List.take_zero, List.append_nil] at h
          exact h)
        rw [HFL2.out] at HOW
        have HBY : Hid (∀ j u, (Lib.byteCells [])[j]? = some u → wr.cell? ((⟨bd, o, none⟩ : Addr).add j) = some u) := hide (by
          intro j u h
          simp [Lib.byteCells] at h)
        clear HFL HFN HLB HPL
        go_wp2_with (first
          | (at_builtin; refine wpList_app rfl (.tmp 69) (.tmp 72) rfl B _ (bs ++ 34 :: escs tx) rfl HOW.out [] ⟨bd, o, none⟩ 0 0 rfl rfl HBY.out (by have := HLB2.out; simp at this ⊢; omega) HSZ.out ?_; intro v2 w2 hown2 hk2)
          | (at_builtin; refine wpList_app rfl (.tmp 74) (.tmp 75) rfl B _ (bs ++ 34 :: escs tx) rfl (Own.alloc (by have h := hown2; rw [List.append_nil] at h; exact h) _) [34] ⟨_, 0, none⟩ 1 1 rfl rfl (lit_cells _ [34] 5) (by have := HLB2.out; simp at this ⊢; omega) (by have := hk2.size; have := HSZ.out; simp; omega) ?_; intro v3 w3 hown3 hk3))
        go_ret
        refine ⟨_, rfl, ?_, HK.out.trans (hk2.trans (((Kept.refl _ _).alloc (by have := hk2.size; have := HSZ.out; omega) _).trans hk3))⟩
        have h := hown3
        rw [List.append_assoc, List.cons_append] at h
        exact h
      · have HBY := hide ((HT.out.kept HK.out hbd).part st (k - st) (by have := HN.out; omega))
        go_wp2_with (first
          | (at_builtin; refine wpList_app rfl (.tmp 69) (.tmp 72) rfl B _ (bs ++ 34 :: escs (tx.take st)) rfl HOW.out ((tx.drop st).take (k - st)) ⟨bd, o + st, none⟩ (k - st) (c - st) HFN.out rfl HBY.out (by have := HLB.out; omega) HSZ.out ?_; intro v2 w2 hown2 hk2)
          | (at_builtin; refine wpList_app rfl (.tmp 74) (.tmp 75) rfl B _ (bs ++ 34 :: escs tx) rfl (Own.alloc (by have h := hown2; rw [List.append_assoc, List.cons_append, HFL.out] at h; exact h) _) [34] ⟨_, 0, none⟩ 1 1 rfl rfl (lit_cells _ [34] 5) (by have := HLB2.out; simp at this ⊢; omega) (by have := hk2.size; have := HSZ.out; simp; omega) ?_; intro v3 w3 hown3 hk3))
        go_ret
        refine ⟨_, rfl, ?_, HK.out.trans (hk2.trans (((Kept.refl _ _).alloc (by have := hk2.size; have := HSZ.out; omega) _).trans hk3))⟩
        have h := hown3
        rw [List.append_assoc, List.cons_append] at h
        exact h

end Go.Proofs.Qxb6604022aDoor
