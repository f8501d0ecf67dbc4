import Derived.Test.Qxb6604022aDoorUint
import Derived.Laws.CopyOwn
import Derived.BigQuiet
namespace Go.Proofs.Qxb6604022aDoor
open Go.RowKit

/-- The cells from there on hold the bytes. -/
def Cells (w : World) (b o : Nat) (l : List UInt8) : Prop := ∀ i (h : i < l.length), w.cell? ⟨b, o + i, none⟩ = some (.int .u8 l[i].toNat)

theorem size_any5 (a1 a2 : Option Addr) (n1 c1 n2 c2 : Nat) (p : Int) (w : World) (h1 : n1 ≤ maxLen) (h2 : n2 ≤ maxLen) :
    Calls Tryd.prog 5 #[.slice a1 n1 c1, .int .i64 p, .slice a2 n2 c2] w fun e w' => ∃ r, e = .returned (.bool r) ∧ w' = w := by
  unfold maxLen at h1 h2
  go_enter Tryd.func5, Tryd.ntmps5
  by_cases c1 : n1 ≤ 1048576 <;> by_cases c2 : n2 ≤ 1048576 <;> by_cases c3 : n1 + n2 ≤ 1048576
  all_goals go_wp2
  all_goals (go_ret; exact ⟨_, rfl, rfl⟩)
theorem size_any10 (a1 a2 : Option Addr) (n1 c1 n2 c2 : Nat) (p : Int) (w : World) (h1 : n1 ≤ maxLen) (h2 : n2 ≤ maxLen) :
    Calls Tryd.prog 10 #[.slice a1 n1 c1, .int .i64 p, .slice a2 n2 c2] w fun e w' => ∃ r, e = .returned (.bool r) ∧ w' = w := by
  unfold maxLen at h1 h2
  go_enter Tryd.func10, Tryd.ntmps10
  by_cases c1 : n1 ≤ 1048576 <;> by_cases c2 : n2 ≤ 1048576 <;> by_cases c3 : n1 + n2 ≤ 1048576
  all_goals go_wp2
  all_goals (go_ret; exact ⟨_, rfl, rfl⟩)

theorem q22 : ∀ (w : World) (a : Option Addr) (n c n' c' : Nat), (binOp .eql 22 (.slice a n c) (.slice none n' c')).run Tryd.prog w = .ok (.bool a.isNone) w := fun w a n c n' c' => Lib.run_eql_slice_nil w _ _ a n c n' c' Tryd.underlying22

theorem clone_nil (w : World) : Calls Tryd.prog 6 #[.slice none 0 0] w fun e w' => e = .returned (.slice none 0 0) ∧ w' = w := by
  have q22 := q22
  go_enter Tryd.func6, Tryd.ntmps6
  go_wp2
  go_ret
  exact ⟨rfl, rfl⟩

theorem made_row {w w2 : World} {n : Nat} {xs : List Value} (h : w2.ownsRow w.heap.size 5 1 (.slice (some ⟨w.heap.size, 0, none⟩) n n) n xs) :
    ∃ cur : List Value, Hid (w2.heap[w.heap.size]? = some (.cells cur.toArray 5 (0, 0))) ∧ Hid (cur.length = n) := by
  rcases h.2 with ⟨h, _⟩ | ⟨g, cap, cur, e, _, hg, _, _, hcs, _⟩
  · cases h
  · cases e
    exact ⟨cur.toList, hide (by simpa using hg), hide (by simpa using hcs)⟩
theorem clone_src {w w2 : World} {b off : Nat} {l : List UInt8} (hs : Cells w b off l) (hb : Below w.heap.size w w2) (j : Nat) (u : Value) (hj : (Lib.byteCells l)[j]? = some u) : w2.cell? ((⟨b, off, none⟩ : Addr).add j) = some u := by
  have hl : j < l.length := by have := (List.getElem?_eq_some_iff.1 hj).1; rwa [Lib.byteCells_length] at this
  have h1 : (Lib.byteCells l)[j]? = some (.int .u8 (l[j]).toNat) := by simp [Lib.byteCells, hl]
  rw [h1] at hj
  cases hj
  have h0 := hs j hl
  have : (⟨b, off, none⟩ : Addr).add j = ⟨b, off + j, none⟩ := by simp [Addr.add]
  rw [this, hb.cell (World.block_lt_of_cell? w _ h0)]
  exact h0

theorem clone_some (b off n c : Nat) (l : List UInt8) (w : World) (hn : n = l.length) (hn2 : n ≤ 1048576) (hs : Cells w b off l) :
    Calls Tryd.prog 6 #[.slice (some ⟨b, off, none⟩) n c] w fun e w' => ∃ v', e = .returned v' ∧ Full w' v' l ∧ Below w.heap.size w w' := by
  have HN := hide hn
  have HS := hide hs
  clear hn hs
  obtain ⟨i0, hi, hz0, hz1, hz2⟩ := info_parts Tryd.info5
  have q22 := q22
  go_enter Tryd.func6, Tryd.ntmps6
  go_wp2_with (first
    | (at_make; refine wpList_make_full _ rfl (.tmp 7) (.tmp 7) 22 rfl w.heap.size 5 i0 (.int .u8 0) 1 Tryd.underlying22 hi hz0 hz1 .i64 .i64 _ _ n rfl rfl rfl rfl (by rw [hz2]; omega) (by unfold maxLen; omega) (Nat.le_refl _) ?_; intro w2 hown2 hgrow2; obtain ⟨cur, HCG, HCN⟩ := made_row hown2; have HBW := hide ((Below.refl _ _).grown hgrow2 (Nat.le_refl _) (fun _ h => by cases h)); clear hown2 hgrow2)
    | (refine wpList_copy_splice rfl (.tmp 9) (.tmp 10) 22 22 rfl 5 Tryd.underlying22 (by rw [hi, Option.map_some, hz1]) (some ⟨w.heap.size, 0, none⟩) (some ⟨b, off, none⟩) n n n c rfl rfl w.heap.size 0 cur 5 HCG.out (Lib.byteCells l) (by rw [Lib.byteCells_length, ← HN.out]; exact (Nat.min_self n).symm) (fun _ => ⟨rfl, ⟨b, off, none⟩, rfl, clone_src HS.out HBW.out⟩) (by rw [Lib.byteCells_length, ← HN.out, HCN.out]; omega) (byteCells_one l) w.heap.size w HBW.out (Nat.le_refl _) ?_; intro w3 hw3 hb3))
  go_ret
  refine ⟨_, rfl, ⟨w.heap.size, _, by rw [← HN.out]; rfl, hw3.out, ?_⟩, hb3⟩
  unfold splice
  rw [Lib.byteCells_length, List.drop_of_length_le (by rw [HCN.out, HN.out]; omega)]
  simp

theorem eq_zero (a1 a2 : Option Addr) (c1 c2 : Nat) (w : World) :
    Calls Tryd.prog 9 #[.slice a1 0 c1, .slice a2 0 c2] w fun e w' => e = .returned (.bool true) ∧ Below w.heap.size w w' := by
  go_enter Tryd.func9, Tryd.ntmps9
  go_wp2
  refine wp_loop_rounds 1 ?_; rw [rounds_succ]
  go_wp2
  go_ret
  exact ⟨rfl, Below.refl _ _⟩

theorem eq_same (b1 o1 b2 o2 n c1 c2 : Nat) (l : List UInt8) (w : World) (hn : n = l.length) (hn2 : n ≤ 140737488355328) (h1 : Cells w b1 o1 l) (h2 : Cells w b2 o2 l) :
    Calls Tryd.prog 9 #[.slice (some ⟨b1, o1, none⟩) n c1, .slice (some ⟨b2, o2, none⟩) n c2] w fun e w' => e = .returned (.bool true) ∧ Below w.heap.size w w' := by
  have HN := hide hn
  have H1 := hide h1
  have H2 := hide h2
  clear hn h1 h2
  go_enter Tryd.func9, Tryd.ntmps9
  go_wp2
  go_loopw [5] (fun i wr => ∃ k : Nat, k ≤ n ∧ i = .int .i64 k ∧ Below w.heap.size w wr) (fun i _ => n - (intOf i).toNat)
  case atStart => exact ⟨0, Nat.zero_le _, rfl, Below.refl _ _⟩
  case round =>
    obtain ⟨k, hk, rfl, hbr⟩ := hrel
    by_cases hlt : k < n
    · have hkl : k < l.length := by rw [← HN.out]; exact hlt
      have d1 := H1.out k hkl
      have d2 := H2.out k hkl
      have d1' := (hbr.cell (World.block_lt_of_cell? w _ d1)).trans d1
      have d2' := (hbr.cell (World.block_lt_of_cell? w _ d2)).trans d2
      obtain ⟨x, ex⟩ : ∃ x, x = l[k].toNat := ⟨_, rfl⟩
      rw [← ex] at d1' d2'
      clear d1 d2 ex
      go_wp2_with (go_quiet (fail))
      go_roundw
      case rel => exact ⟨k + 1, by omega, by go_num, hbr.trans ⟨rfl, rfl, rfl, Nat.le_refl _, fun _ _ => rfl⟩⟩
      case measure => simp [intOf]; omega
    · go_wp2
      go_ret
      exact ⟨rfl, hbr⟩
end Go.Proofs.Qxb6604022aDoor
