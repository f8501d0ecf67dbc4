import Derived.Test.Qxb6602040aDoorApp
namespace Go.Proofs.Qxb6602040aDoor
open Go.RowKit

/-- The copy so far, and zeros. -/
def intTo (l : List Int) (k : Nat) : List Value := (l.take k).map (Value.int .i64) ++ List.replicate (l.length - k) (.int .i64 0)
theorem intTo_zero (l : List Int) : intTo l 0 = List.replicate l.length (.int .i64 0) := by simp [intTo]
theorem intTo_full (l : List Int) (k : Nat) (h : l.length ≤ k) : intTo l k = l.map (Value.int .i64) := by simp [intTo, List.take_of_length_le h, Nat.sub_eq_zero_of_le h]
theorem intTo_step (l : List Int) (k : Nat) (h : k < l.length) : (intTo l k).set k (.int .i64 l[k]) = intTo l (k + 1) := by
  unfold intTo
  obtain ⟨m, hm⟩ : ∃ m, l.length - k = m + 1 := ⟨l.length - k - 1, by omega⟩
  rw [hm, show l.length - (k + 1) = m by omega, List.take_succ_eq_append_getElem h, List.map_append, List.set_append_right _ _ (by simp; omega)]
  have e : k - ((l.take k).map (Value.int .i64)).length = 0 := by simp; omega
  rw [e]
  simp [List.replicate_succ]
theorem made_int (n : Nat) : (madeCells (Value.int .i64 0).cells (n * 1)).toList = List.replicate n (.int .i64 0) := by
  rw [Nat.mul_one]; exact toList_madeCells_one _ n
theorem q23 : ∀ (w : World) (a : Option Addr) (n c n' c' : Nat), (binOp .eql 23 (.slice a n c) (.slice none n' c')).run Tryd.prog w = .ok (.bool a.isNone) w := fun w a n c n' c' => Lib.run_eql_slice_nil w _ _ a n c n' c' Tryd.underlying23

/-- What the copy's call leaves. -/
def CPost (n : Nat) (l : List Int) (w : World) (e : Ending) (w' : World) : Prop := ∃ g, e = .returned (.slice (some ⟨g, 0, none⟩) n n) ∧ Ints w' g 0 l ∧ Below w.heap.size w w'
def ZPost (w : World) (e : Ending) (w' : World) : Prop := ∃ a c, e = .returned (.slice a 0 c) ∧ Below w.heap.size w w'

set_option maxHeartbeats 400000 in
theorem clone_any (b off n c : Nat) (l : List Int) (w : World) (hn : n = l.length) (hn2 : n ≤ 1048576) (hs : Ints w b off l) :
    Calls Tryd.prog 7 #[.slice (some ⟨b, off, none⟩) n c] w fun e w' => CPost n l w e w' := by
  have HN := hide hn
  have HS := hide hs
  clear hn hs
  obtain ⟨i0, hi, hz0, hz1, hz2⟩ := info_parts Tryd.info2
  have q23 := q23
  go_enter Tryd.func7, Tryd.ntmps7
  go_wp2_with (at_make; refine wpList_make_full _ rfl (.tmp 8) (.tmp 8) 23 rfl w.heap.size 2 i0 (.int .i64 0) 1 Tryd.underlying23 hi hz0 hz1 .i64 .i64 _ _ n rfl rfl rfl rfl (by rw [hz2]; omega) (by unfold maxLen; omega) (Nat.le_refl _) ?_; intro w2 hown2 hgrow2)
  go_loopw [4] (fun i wr => ∃ k : Nat, k ≤ n ∧ i = .int .i64 k ∧ Hid (wr.ownsRow w.heap.size 2 1 (.slice (some ⟨w.heap.size, 0, none⟩) n n) n (intTo l k)) ∧ Below w.heap.size w wr) (fun i _ => n - (intOf i).toNat)
  case atStart =>
    refine ⟨0, Nat.zero_le _, rfl, hide ?_, (Below.refl _ _).grown hgrow2 (Nat.le_refl _) (fun _ h => by cases h)⟩
    rw [made_int] at hown2
    rw [intTo_zero, ← HN.out]
    exact hown2
  case round =>
    obtain ⟨k, hk, rfl, HO, hbr⟩ := hrel
    clear hown2 hgrow2
    by_cases hlt : k < n
    · have hkl : k < l.length := by rw [← HN.out]; exact hlt
      have c1 := HS.out k hkl
      have c1' := (hbr.cell (World.block_lt_of_cell? w _ c1)).trans c1
      have c2 := HO.out.cellAt k (by omega)
      have f2 := HO.out.frozenAt k
      have HST := hide (intTo_step l k hkl)
      have HSR := hide (HO.out.stored k (.int .i64 l[k]))
      obtain ⟨x, hx⟩ : ∃ x, (intTo l k)[k]? = some x := ⟨_, List.getElem?_eq_getElem (by have := HO.out.1; omega)⟩
      rw [hx] at c2
      obtain ⟨y, ey⟩ : ∃ y, y = l[k] := ⟨_, rfl⟩
      rw [← ey] at c1' HST HSR
      clear c1 hx ey
      go_wp2
      go_roundw
      case rel => exact ⟨k + 1, by omega, by go_num, hide (by rw [← HST.out]; exact HSR.out.1), hbr.grown HSR.out.2 hbr.size (fun j h => by cases h; exact Nat.le_refl _)⟩
      case measure => simp [intOf]; omega
    · go_wp2
      go_ret
      refine ⟨w.heap.size, rfl, fun i h => ?_, hbr⟩
      have e := HO.out.cellAt i (by rw [Nat.mul_one, HN.out]; exact h)
      rw [intTo_full l k (by have := HN.out; omega)] at e
      rw [Nat.zero_add, e]
      simp [h]

set_option maxHeartbeats 400000 in
theorem clone_zero (a : Option Addr) (c : Nat) (w : World) :
    Calls Tryd.prog 7 #[.slice a 0 c] w fun e w' => ZPost w e w' := by
  obtain ⟨i0, hi, hz0, hz1, hz2⟩ := info_parts Tryd.info2
  have q23 := q23
  cases a with
  | none =>
    go_enter Tryd.func7, Tryd.ntmps7
    go_wp2
    go_ret
    exact ⟨none, 0, rfl, Below.refl _ _⟩
  | some x =>
    go_enter Tryd.func7, Tryd.ntmps7
    go_wp2_with (at_make; refine wpList_make_full _ rfl (.tmp 8) (.tmp 8) 23 rfl w.heap.size 2 i0 (.int .i64 0) 1 Tryd.underlying23 hi hz0 hz1 .i64 .i64 _ _ 0 rfl rfl rfl rfl (by omega) (by unfold maxLen; omega) (Nat.le_refl _) ?_; intro w2 hown2 hgrow2)
    refine wp_loop_rounds 1 ?_; rw [rounds_succ]
    go_wp2
    go_ret
    exact ⟨_, _, rfl, (Below.refl _ _).grown hgrow2 (Nat.le_refl _) (fun _ h => by cases h)⟩

theorem size_any (s1 s2 s3 : ByteArray) (tx : Int) (a : Option Addr) (n c : Nat) (w : World) (h1 : s1.size ≤ maxLen) (h2 : s2.size ≤ maxLen) (h3 : s3.size ≤ maxLen) (h4 : n ≤ maxLen) :
    Calls Tryd.prog 9 #[.string s1, .string s2, .string s3, .int .i64 tx, .slice a n c] w fun e w' => ∃ r, e = .returned (.bool r) ∧ w' = w := by
  unfold maxLen at h1 h2 h3 h4
  go_enter Tryd.func9, Tryd.ntmps9
  go_wp2
  all_goals (go_ret; exact ⟨_, rfl, rfl⟩)
end Go.Proofs.Qxb6602040aDoor
