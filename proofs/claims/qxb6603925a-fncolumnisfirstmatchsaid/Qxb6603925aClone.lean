import Derived.Test.Qxb6603925aWalks
import Derived.Lib.SliceRun
namespace Go.Proofs.Qxb6603925a
open Go.RowKit

theorem Try.info9 : (Try.prog.info? 9).map (fun i => (i.zero, i.size, i.bytes)) = some (some (.string ⟨#[]⟩), 1, 16) := by kernel_rfl

/-- The copy so far, and empty strings. -/
def strTo (ss : List ByteArray) (k : Nat) : List Value := (ss.take k).map Value.string ++ List.replicate (ss.length - k) (.string ⟨#[]⟩)
theorem strTo_zero (ss : List ByteArray) : strTo ss 0 = List.replicate ss.length (.string ⟨#[]⟩) := by simp [strTo]
theorem strTo_full (ss : List ByteArray) (k : Nat) (h : ss.length ≤ k) : strTo ss k = ss.map Value.string := by simp [strTo, List.take_of_length_le h, Nat.sub_eq_zero_of_le h]
theorem strTo_step (ss : List ByteArray) (k : Nat) (h : k < ss.length) : (strTo ss k).set k (.string ss[k]) = strTo ss (k + 1) := by
  unfold strTo
  obtain ⟨m, hm⟩ : ∃ m, ss.length - k = m + 1 := ⟨ss.length - k - 1, by omega⟩
  rw [hm, show ss.length - (k + 1) = m by omega, List.take_succ_eq_append_getElem h, List.map_append, List.set_append_right _ _ (by simp; omega)]
  have e : k - ((ss.take k).map Value.string).length = 0 := by simp; omega
  rw [e]
  simp [List.replicate_succ]
theorem made_str (n : Nat) : (madeCells (Value.string ⟨#[]⟩).cells (n * 1)).toList = List.replicate n (.string ⟨#[]⟩) := by
  rw [Nat.mul_one]; exact toList_madeCells_one _ n

/-- What the copy's call leaves. -/
def CPost (n : Nat) (ss : List ByteArray) (w : World) (e : Ending) (w' : World) : Prop := ∃ g, e = .returned (.slice (some ⟨g, 0, none⟩) n n) ∧ Strs w' g 0 ss ∧ Below w.heap.size w w'
def ZPost (w : World) (e : Ending) (w' : World) : Prop := ∃ a c, e = .returned (.slice a 0 c) ∧ Below w.heap.size w w'

set_option maxHeartbeats 400000 in
theorem clone_any (b off n c : Nat) (ss : List ByteArray) (w : World) (hn : n = ss.length) (hn2 : n ≤ 1048576) (hs : Strs w b off ss) :
    Calls Try.prog 6 #[.slice (some ⟨b, off, none⟩) n c] w fun e w' => CPost n ss w e w' := by
  have HN := hide hn
  have HS := hide hs
  clear hn hs
  obtain ⟨i0, hi, hz0, hz1, hz2⟩ := info_parts Try.info9
  have q22 : ∀ (w : World) (a : Option Addr) (n c n' c' : Nat), (binOp .eql 22 (.slice a n c) (.slice none n' c')).run Try.prog w = .ok (.bool a.isNone) w := fun w a n c n' c' => Lib.run_eql_slice_nil w _ _ a n c n' c' Try.underlying22
  go_enter Try.func6, Try.ntmps6
  go_wp2_with (at_make; refine wpList_make_full _ rfl (.tmp 8) (.tmp 8) 22 rfl w.heap.size 9 i0 (.string ⟨#[]⟩) 1 Try.underlying22 hi hz0 hz1 .i64 .i64 _ _ n rfl rfl rfl rfl (by rw [hz2]; omega) (by unfold maxLen; omega) (Nat.le_refl _) ?_; intro w2 hown2 hgrow2)
  go_loopw [4] (fun i wr => ∃ k : Nat, k ≤ n ∧ i = .int .i64 k ∧ Hid (wr.ownsRow w.heap.size 9 1 (.slice (some ⟨w.heap.size, 0, none⟩) n n) n (strTo ss k)) ∧ Below w.heap.size w wr) (fun i _ => n - (intOf i).toNat)
  case atStart =>
    refine ⟨0, Nat.zero_le _, rfl, hide ?_, (Below.refl _ _).grown hgrow2 (Nat.le_refl _) (fun _ h => by cases h)⟩
    rw [made_str] at hown2
    rw [strTo_zero, ← HN.out]
    exact hown2
  case round =>
    obtain ⟨k, hk, rfl, HO, hbr⟩ := hrel
    clear hown2 hgrow2
    by_cases hlt : k < n
    · have hkl : k < ss.length := by rw [← HN.out]; exact hlt
      have c1 := HS.out k hkl
      have c1' := (hbr.cell (World.block_lt_of_cell? w _ c1)).trans c1
      have c2 := HO.out.cellAt k (by omega)
      have f2 := HO.out.frozenAt k
      have HST := hide (strTo_step ss k hkl)
      have HSR := hide (HO.out.stored k (.string ss[k]))
      obtain ⟨x, hx⟩ : ∃ x, (strTo ss k)[k]? = some x := ⟨_, List.getElem?_eq_getElem (by have := HO.out.1; omega)⟩
      rw [hx] at c2
      obtain ⟨l, el⟩ : ∃ l, l = ss[k] := ⟨_, rfl⟩
      rw [← el] at c1' HST HSR
      clear c1 hx el
      go_wp2
      go_roundw
      case rel => exact ⟨k + 1, by omega, by go_num, hide (by rw [← HST.out]; exact HSR.out.1), hbr.grown HSR.out.2 hbr.size (fun j h => by cases h; exact Nat.le_refl _)⟩
      case measure => simp [intOf]; omega
    · go_wp2
      go_ret
      refine ⟨w.heap.size, rfl, fun i h => ?_, hbr⟩
      have e := HO.out.cellAt i (by rw [Nat.mul_one, HN.out]; exact h)
      rw [strTo_full ss k (by have := HN.out; omega)] at e
      rw [Nat.zero_add, e]
      simp [h]

set_option maxHeartbeats 400000 in
theorem clone_zero (a : Option Addr) (c : Nat) (w : World) :
    Calls Try.prog 6 #[.slice a 0 c] w fun e w' => ZPost w e w' := by
  obtain ⟨i0, hi, hz0, hz1, hz2⟩ := info_parts Try.info9
  have q22 : ∀ (w : World) (a : Option Addr) (n c n' c' : Nat), (binOp .eql 22 (.slice a n c) (.slice none n' c')).run Try.prog w = .ok (.bool a.isNone) w := fun w a n c n' c' => Lib.run_eql_slice_nil w _ _ a n c n' c' Try.underlying22
  cases a with
  | none =>
    go_enter Try.func6, Try.ntmps6
    go_wp2
    go_ret
    exact ⟨none, 0, rfl, Below.refl _ _⟩
  | some x =>
    go_enter Try.func6, Try.ntmps6
    go_wp2_with (at_make; refine wpList_make_full _ rfl (.tmp 8) (.tmp 8) 22 rfl w.heap.size 9 i0 (.string ⟨#[]⟩) 1 Try.underlying22 hi hz0 hz1 .i64 .i64 _ _ 0 rfl rfl rfl rfl (by omega) (by unfold maxLen; omega) (Nat.le_refl _) ?_; intro w2 hown2 hgrow2)
    refine wp_loop_rounds 1 ?_; rw [rounds_succ]
    go_wp2
    go_ret
    exact ⟨_, _, rfl, (Below.refl _ _).grown hgrow2 (Nat.le_refl _) (fun _ h => by cases h)⟩
end Go.Proofs.Qxb6603925a
