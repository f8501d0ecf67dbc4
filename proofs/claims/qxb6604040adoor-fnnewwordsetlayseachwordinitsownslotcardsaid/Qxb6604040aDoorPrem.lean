import Derived.Test.Qxb6604040aDoorFirst
namespace Go.Proofs.Qxb6604040aDoor
open Go.RowKit

def wordsOf (s : ByteArray) : List (List UInt8) := Lib.fields s.data.toList

set_option maxHeartbeats 400000 in
theorem zzKey_any (s : ByteArray) (w : World) (hs : s.size ≤ maxLen) :
    Calls Tryd.prog 10 #[.string s] w fun e w' => e = .returned (.int .u64 (wkey s)) ∧ w' = w := by
  go_enter Tryd.func10, Tryd.ntmps10
  go_wp2_with (go_at_call 25; refine (wordKey_any _ _ hs).mono ?_; rintro e w' ⟨rfl, rfl⟩)
  go_ret
  exact ⟨rfl, rfl⟩

/-- What the premise's call leaves, where it answers yes. -/
structure PremYes (s : ByteArray) (w' : World) (vw vk : Value) (t : Nat) : Prop where
  dom : domB s = true
  few : (wordsOf s).length < 256
  first : FirstAt (wordsOf s) t
  words : RowIs w' vw ((wordsOf s).map bs)
  keys : RowIs w' vk ((wordsOf s).map keyV)

set_option maxHeartbeats 400000 in
theorem prem_nodom (s : ByteArray) (w : World) (hs : s.size ≤ 65536) (hd : domB s = false) :
    Calls Tryd.prog 7 #[.string s] w fun e w' => e = .returned (.tuple #[.slice none 0 0, .slice none 0 0, .int .u64 0, .bool false]) ∧ Below w.heap.size w w' := by
  go_enter Tryd.func7, Tryd.ntmps7
  go_wp2_with (go_at_call 20; refine (listInDomain_any _ _ (by unfold maxLen; omega)).mono ?_; rintro e w' ⟨rfl, rfl⟩)
  refine bodyPost_ret (v := .tuple #[.slice none 0 0, .slice none 0 0, .int .u64 0, .bool false]) (by simp [results, Tryd.results7, go_sem]) rfl ⟨rfl, Below.refl _ _⟩

set_option maxRecDepth 20000 in
set_option maxHeartbeats 400000 in
theorem prem_many (s : ByteArray) (w : World) (hs : s.size ≤ 65536) (hd : domB s = true) (hn : 256 ≤ (wordsOf s).length) :
    Calls Tryd.prog 7 #[.string s] w fun e w' => e = .returned (.tuple #[.slice none 0 0, .slice none 0 0, .int .u64 0, .bool false]) ∧ Below w.heap.size w w' := by
  have HS := hide (splitWords_any s w hs)
  go_enter Tryd.func7, Tryd.ntmps7
  go_wp2_with (first | (go_at_call 20; refine (listInDomain_any _ _ (by unfold maxLen; omega)).mono ?_; rintro e w' ⟨rfl, rfl⟩))
  refine HS.out.mono ?_
  rintro e w1 ⟨v, rfl, hown, hb⟩
  obtain ⟨aw, nw, cw, ew, HN⟩ := (RowIs.of_owns hown).len
  have hn2 : 256 ≤ nw := by have := HN.out; rw [List.length_map] at this; rw [this]; exact hn
  clear hown HN hn HS hs hd
  rw [ew]
  clear ew
  go_wp2
  refine bodyPost_ret (v := .tuple #[.slice none 0 0, .slice none 0 0, .int .u64 0, .bool false]) (by simp [results, Tryd.results7, go_sem]) rfl ⟨rfl, hb⟩

theorem Tryd.info25 : (Tryd.prog.info? 25).map (fun i => (i.zero, i.size, i.bytes)) = some (some (.int .u64 0), 1, 8) := by kernel_rfl

/-- The keys so far, and zeros. -/
def keysTo (ws : List (List UInt8)) (k : Nat) : List Value := (ws.take k).map keyV ++ List.replicate (ws.length - k) (.int .u64 0)
theorem keysTo_zero (ws : List (List UInt8)) : keysTo ws 0 = List.replicate ws.length (.int .u64 0) := by simp [keysTo]
theorem keysTo_full (ws : List (List UInt8)) (k : Nat) (h : ws.length ≤ k) : keysTo ws k = ws.map keyV := by simp [keysTo, List.take_of_length_le h, Nat.sub_eq_zero_of_le h]
theorem keysTo_step (ws : List (List UInt8)) (k : Nat) (h : k < ws.length) : (keysTo ws k).set k (keyV ws[k]) = keysTo ws (k + 1) := by
  unfold keysTo
  obtain ⟨m, hm⟩ : ∃ m, ws.length - k = m + 1 := ⟨ws.length - k - 1, by omega⟩
  rw [hm, show ws.length - (k + 1) = m by omega, List.take_succ_eq_append_getElem h, List.map_append, List.set_append_right _ _ (by simp; omega)]
  have e : k - ((ws.take k).map keyV).length = 0 := by simp; omega
  rw [e]
  simp [List.replicate_succ]
theorem made_zero (n : Nat) : (madeCells (Value.int .u64 0).cells (n * 1)).toList = List.replicate n (.int .u64 0) := by
  rw [Nat.mul_one]; exact toList_madeCells_one _ n

theorem fieldsGo_mem : ∀ (L cur l : List UInt8), l ∈ Lib.fieldsGo cur L → l ≠ [] ∧ l.length ≤ cur.length + L.length
  | [], cur, l, h => by
    cases cur with
    | nil => simp [Lib.fieldsGo] at h
    | cons a b => simp [Lib.fieldsGo] at h; subst h; simp
  | b :: L, cur, l, h => by
    cases hb : Lib.isSp b
    · rw [Lib.fieldsGo_more _ _ _ hb] at h
      have := fieldsGo_mem L (cur ++ [b]) l h
      simp at this ⊢
      exact ⟨this.1, by omega⟩
    · cases cur with
      | nil =>
        rw [Lib.fieldsGo_sp _ _ hb] at h
        have := fieldsGo_mem L [] l h
        simp at this ⊢
        exact ⟨this.1, by omega⟩
      | cons a c =>
        rw [Lib.fieldsGo_end _ _ _ hb (by simp)] at h
        rcases List.mem_cons.1 h with rfl | h
        · simp
        · have := fieldsGo_mem L [] l h
          simp at this ⊢
          exact ⟨this.1, by omega⟩
theorem words_mem (s : ByteArray) (l : List UInt8) (h : l ∈ wordsOf s) : l ≠ [] ∧ l.length ≤ s.size := by
  have := fieldsGo_mem s.data.toList [] l h
  simpa using this
theorem words_size (s : ByteArray) (l : List UInt8) (h : l ∈ wordsOf s) (hs : s.size ≤ 65536) : (⟨l.toArray⟩ : ByteArray).size ≤ maxLen := by
  have := (words_mem s l h).2
  show l.toArray.size ≤ maxLen
  rw [List.size_toArray]
  unfold maxLen
  omega
theorem wk_bs (l : List UInt8) : (Value.int .u64 ((wkey ⟨l.toArray⟩ : Nat) : Int)) = keyV l := rfl

set_option maxRecDepth 20000 in
set_option maxHeartbeats 1000000 in
theorem prem_few (s : ByteArray) (w : World) (hs : s.size ≤ 65536) (hd : domB s = true) (hn : (wordsOf s).length < 256) :
    Calls Tryd.prog 7 #[.string s] w fun e w' => (e = .returned (.tuple #[.slice none 0 0, .slice none 0 0, .int .u64 0, .bool false]) ∨
      ∃ vw vk t, PremYes s w' vw vk t ∧ e = .returned (.tuple #[vw, vk, .int .u64 (mulAt t), .bool true])) ∧ Below w.heap.size w w' := by
  obtain ⟨i0, hi, hz0, hz1, hz2⟩ := info_parts Tryd.info25
  have HS := hide (splitWords_any s w hs)
  have HP := hide hn
  have HD := hide hd
  clear hn
  go_enter Tryd.func7, Tryd.ntmps7
  go_wp2_with (first | (go_at_call 20; refine (listInDomain_any _ _ (by unfold maxLen; omega)).mono ?_; rintro e w' ⟨rfl, hw⟩; replace hw := hw.symm; subst hw))
  refine HS.out.mono ?_
  rintro e w1 ⟨v, rfl, hown, hb⟩
  have HW := hide (RowIs.of_owns hown)
  rcases hown.2 with ⟨rfl, h0⟩ | ⟨g, cap, cur, rfl, hg1, hg2, hg3, hg4, hg5, hg6⟩
  · have hws : wordsOf s = [] := List.length_eq_zero_iff.1 h0
    have HWS := hide hws
    clear hown h0 hws HS hd hs
    go_wp2_with (at_make; refine wpList_make_full _ rfl (.tmp 20) (.tmp 20) 24 rfl w1.heap.size 25 i0 (.int .u64 0) 1 Tryd.underlying24 hi hz0 hz1 .i64 .i64 _ _ 0 rfl rfl rfl rfl (by omega) (by unfold maxLen; omega) (Nat.le_refl _) ?_; intro w2 hown2 hgrow2)
    refine wp_loop_rounds 1 ?_; rw [rounds_succ]
    go_wp2_with fail
    have hb12 : Below w1.heap.size w1 w2 := (Below.refl _ _).grown hgrow2 (Nat.le_refl _) (fun _ h => by cases h)
    have HW2 := hide (HW.out.below hb12)
    have HK : Hid (RowIs w2 (.slice (some ⟨w1.heap.size, 0, none⟩) 0 0) ((wordsOf s).map keyV)) := hide (by
      have := RowIs.of_owns hown2
      rw [made_zero] at this
      rw [HWS.out]
      exact this)
    clear hown2
    refine (firstMul_any _ _ (wordsOf s) w2 HP.out HW2.out HK.out).mono ?_
    rintro e w3 ⟨hres, hb3⟩
    have hbb : Below w.heap.size w w3 := (hb.grown hgrow2 hb.size (fun _ h => by cases h)).trans (hb3.mono (Nat.le_trans hb.size hgrow2.size))
    rcases hres with rfl | ⟨t, hf, rfl⟩
    · go_wp2
      refine bodyPost_ret (v := .tuple #[.slice none 0 0, .slice none 0 0, .int .u64 0, .bool false]) (by simp [results, Tryd.results7, go_sem]) rfl ⟨.inl rfl, hbb⟩
    · have HY : Hid (PremYes s w3 (.slice none 0 0) (.slice (some ⟨w1.heap.size, 0, none⟩) 0 0) t) := hide ⟨HD.out, HP.out, hf, HW2.out.below hb3, HK.out.below hb3⟩
      obtain ⟨m, em⟩ : ∃ m, m = mulAt t := ⟨_, rfl⟩
      rw [← em]
      have EM := hide em
      clear em hf HK HW hb3
      go_wp2
      refine bodyPost_ret (v := .tuple #[(.slice none 0 0), (.slice (some ⟨w1.heap.size, 0, none⟩) 0 0), .int .u64 m, .bool true]) (by simp [results, Tryd.results7, go_sem]) rfl ⟨.inr ⟨_, _, t, HY.out, by rw [EM.out]⟩, hbb⟩
  · have HWS : Hid ((wordsOf s).length = (Lib.fields s.data.toList).length) := hide rfl
    obtain ⟨n, en⟩ : ∃ n, n = (Lib.fields s.data.toList).length := ⟨_, rfl⟩
    have hcw : ∀ i (h : i < (wordsOf s).length), w1.cell? ⟨g, i, none⟩ = some (.string ⟨(wordsOf s)[i].toArray⟩) := fun i h => by
      rw [hown.cellAt i (by rw [Nat.mul_one]; exact h)]
      show ((wordsOf s).map bs)[i]? = _
      simp [h, bs]
    rw [← en] at HWS ⊢
    rw [← en] at HW
    clear hown hg1 hg2 hg3 hg4 hg5 hg6 en HS hd
    have hn2 : n < 256 := by have := HP.out; have := HWS.out; omega
    go_wp2_with (at_make; refine wpList_make_full _ rfl (.tmp 20) (.tmp 20) 24 rfl w1.heap.size 25 i0 (.int .u64 0) 1 Tryd.underlying24 hi hz0 hz1 .i64 .i64 _ _ n rfl rfl rfl rfl (by rw [hz2]; omega) (by unfold maxLen; omega) (Nat.le_refl _) ?_; intro w2 hown2 hgrow2)
    go_loopw [8] (fun i wr => ∃ k : Nat, k ≤ n ∧ i = .int .i64 k ∧ Hid (wr.ownsRow w1.heap.size 25 1 (.slice (some ⟨w1.heap.size, 0, none⟩) n n) n (keysTo (wordsOf s) k)) ∧ Below w1.heap.size w1 wr) (fun i _ => n - (intOf i).toNat)
    case atStart =>
      refine ⟨0, Nat.zero_le _, rfl, hide ?_, (Below.refl _ _).grown hgrow2 (Nat.le_refl _) (fun _ h => by cases h)⟩
      rw [made_zero] at hown2
      rw [keysTo_zero, HWS.out]
      exact hown2
    case round =>
      obtain ⟨k, hk, rfl, HO, hbr⟩ := hrel
      clear hown2 hgrow2
      by_cases hlt : k < n
      · have hkl : k < (wordsOf s).length := by rw [HWS.out]; exact hlt
        have c1 := hcw k hkl
        have c1' := (hbr.cell (World.block_lt_of_cell? w1 _ c1)).trans c1
        have c2 := HO.out.cellAt k (by omega)
        have f2 := HO.out.frozenAt k
        have HST := hide (keysTo_step (wordsOf s) k hkl)
        have HSR := hide (HO.out.stored k (keyV (wordsOf s)[k]))
        obtain ⟨x, hx⟩ : ∃ x, (keysTo (wordsOf s) k)[k]? = some x := ⟨_, List.getElem?_eq_getElem (by have := HO.out.1; omega)⟩
        rw [hx] at c2
        obtain ⟨l, el⟩ : ∃ l, l = (wordsOf s)[k] := ⟨_, rfl⟩
        rw [← el] at c1' HST HSR
        have EL := hide el
        clear c1 el hx hcw
        have HL : Hid ((⟨l.toArray⟩ : ByteArray).size ≤ maxLen) := hide (by rw [EL.out]; exact words_size s _ (List.getElem_mem hkl) hs)
        go_wp2_with (go_at_call 10; refine (zzKey_any _ _ HL.out).mono ?_; rintro e w' ⟨rfl, rfl⟩)
        go_roundw
        case rel => exact ⟨k + 1, by omega, by go_num, hide (by rw [← HST.out]; exact HSR.out.1), hbr.grown HSR.out.2 hbr.size (fun j h => by cases h; exact Nat.le_refl _)⟩
        case measure => simp [intOf]; omega
      · go_wp2_with fail
        have HW2 := hide (HW.out.below hbr)
        have HK : Hid (RowIs wr (.slice (some ⟨w1.heap.size, 0, none⟩) n n) ((wordsOf s).map keyV)) := hide (by
          have := RowIs.of_owns HO.out
          rw [keysTo_full _ _ (by rw [HWS.out]; omega)] at this
          exact this)
        clear HO hcw
        refine (firstMul_any _ _ (wordsOf s) wr HP.out HW2.out HK.out).mono ?_
        rintro e w3 ⟨hres, hb3⟩
        have hbb : Below w.heap.size w w3 := (hb.trans (hbr.mono hb.size)).trans (hb3.mono (Nat.le_trans hb.size hbr.size))
        rcases hres with rfl | ⟨t, hf, rfl⟩
        · go_wp2
          refine bodyPost_ret (v := .tuple #[.slice none 0 0, .slice none 0 0, .int .u64 0, .bool false]) (by simp [results, Tryd.results7, go_sem]) rfl ⟨.inl rfl, hbb⟩
        · have HY : Hid (PremYes s w3 (.slice (some ⟨g, 0, none⟩) n cap) (.slice (some ⟨w1.heap.size, 0, none⟩) n n) t) := hide ⟨HD.out, HP.out, hf, HW2.out.below hb3, HK.out.below hb3⟩
          obtain ⟨m, em⟩ : ∃ m, m = mulAt t := ⟨_, rfl⟩
          rw [← em]
          have EM := hide em
          clear em hf HK HW hb3
          go_wp2
          refine bodyPost_ret (v := .tuple #[(.slice (some ⟨g, 0, none⟩) n cap), (.slice (some ⟨w1.heap.size, 0, none⟩) n n), .int .u64 m, .bool true]) (by simp [results, Tryd.results7, go_sem]) rfl ⟨.inr ⟨_, _, t, HY.out, by rw [EM.out]⟩, hbb⟩

end Go.Proofs.Qxb6604040aDoor
