import Derived.Test.Qxb6604022aDoorSmall
import Derived.Test.Qxb6604022aDoorZZ
namespace Go.Proofs.Qxb6604022aDoor
open Go.RowKit

/-- The bytes that lie from there on. -/
def Src (w : World) (X : Addr) (l : List UInt8) : Prop := ∀ j u, (Lib.byteCells l)[j]? = some u → w.cell? (X.add j) = some u
theorem Src.below {w w2 : World} {X : Addr} {l : List UInt8} (hs : Src w X l) (hb : Below w.heap.size w w2) : Src w2 X l := fun j u hj => by
  have h0 := hs j u hj
  rw [hb.cell (World.block_lt_of_cell? w _ h0)]
  exact h0
theorem Cells.src {w : World} {b off : Nat} {l : List UInt8} (hs : Cells w b off l) : Src w ⟨b, off, none⟩ l := fun j u hj => by
  have hl : j < l.length := by have := (List.getElem?_eq_some_iff.1 hj).1; rwa [Lib.byteCells_length] at this
  have h1 : (Lib.byteCells l)[j]? = some (.int .u8 (l[j]).toNat) := by simp [Lib.byteCells, hl]
  rw [h1] at hj
  cases hj
  have : (⟨b, off, none⟩ : Addr).add j = ⟨b, off + j, none⟩ := by simp [Addr.add]
  rw [this]
  exact hs j hl

theorem clone_at (X : Addr) (n c : Nat) (l : List UInt8) (w : World) (hn : n = l.length) (hn2 : n ≤ 1048576) (hs : Src w X l) :
    Calls Tryd.prog 6 #[.slice (some X) n c] w fun e w' => ∃ v', e = .returned v' ∧ Full w' v' l ∧ Below w.heap.size w w' := by
  have HN := hide hn
  have HS := hide hs
  clear hn hs
  obtain ⟨i0, hi, hz0, hz1, hz2⟩ := info_parts Tryd.info5
  have q22 := q22
  go_enter Tryd.func6, Tryd.ntmps6
  go_wp2_with (first
    | (at_make; refine wpList_make_full _ rfl (.tmp 7) (.tmp 7) 22 rfl w.heap.size 5 i0 (.int .u8 0) 1 Tryd.underlying22 hi hz0 hz1 .i64 .i64 _ _ n rfl rfl rfl rfl (by rw [hz2]; omega) (by unfold maxLen; omega) (Nat.le_refl _) ?_; intro w2 hown2 hgrow2; obtain ⟨cur, HCG, HCN⟩ := made_row hown2; have HBW := hide ((Below.refl _ _).grown hgrow2 (Nat.le_refl _) (fun _ h => by cases h)); clear hown2 hgrow2)
    | (refine wpList_copy_splice rfl (.tmp 9) (.tmp 10) 22 22 rfl 5 Tryd.underlying22 (by rw [hi, Option.map_some, hz1]) (some ⟨w.heap.size, 0, none⟩) (some X) n n n c rfl rfl w.heap.size 0 cur 5 HCG.out (Lib.byteCells l) (by rw [Lib.byteCells_length, ← HN.out]; exact (Nat.min_self n).symm) (fun _ => ⟨rfl, X, rfl, HS.out.below HBW.out⟩) (by rw [Lib.byteCells_length, ← HN.out, HCN.out]; omega) (byteCells_one l) w.heap.size w HBW.out (Nat.le_refl _) ?_; intro w3 hw3 hb3))
  go_ret
  refine ⟨_, rfl, ⟨w.heap.size, _, by rw [← HN.out]; rfl, hw3.out, ?_⟩, hb3⟩
  unfold splice
  rw [Lib.byteCells_length, List.drop_of_length_le (by rw [HCN.out, HN.out]; omega)]
  simp

/-- An argument's slice: nil, or a row of these bytes. -/
def Arg (w : World) (v : Value) (l : List UInt8) : Prop := (v = .slice none 0 0 ∧ l = []) ∨ ∃ X c, v = .slice (some X) l.length c ∧ Src w X l
/-- A copy: nil, or a full row. -/
def Cl (w : World) (v : Value) (l : List UInt8) : Prop := (v = .slice none 0 0 ∧ l = []) ∨ Full w v l
theorem Arg.shape {w : World} {v : Value} {l : List UInt8} (h : Arg w v l) : ∃ a n c, v = .slice a n c ∧ Hid (n = l.length) := by
  rcases h with ⟨rfl, rfl⟩ | ⟨X, c, rfl, _⟩
  · exact ⟨_, _, _, rfl, rfl⟩
  · exact ⟨_, _, _, rfl, rfl⟩
theorem Cl.shape {w : World} {v : Value} {l : List UInt8} (h : Cl w v l) : ∃ a n c, v = .slice a n c ∧ Hid (n = l.length) := by
  rcases h with ⟨rfl, rfl⟩ | ⟨g, cur, rfl, _⟩
  · exact ⟨_, _, _, rfl, rfl⟩
  · exact ⟨_, _, _, rfl, rfl⟩
theorem Cl.own {w : World} {v : Value} {l : List UInt8} (h : Cl w v l) (B : Nat) : Own B w v l := by
  rcases h with ⟨rfl, rfl⟩ | h
  · exact Own.nil _ _
  · exact .inr h
theorem Cl.below {w w' : World} {v : Value} {l : List UInt8} (h : Cl w v l) (hb : Below w.heap.size w w') : Cl w' v l := by
  rcases h with h | h
  · exact .inl h
  · exact .inr (h.keep fun k hk => hb.block k (h.lt k hk))
theorem Arg.below {w w' : World} {v : Value} {l : List UInt8} (h : Arg w v l) (hb : Below w.heap.size w w') : Arg w' v l := by
  rcases h with h | ⟨X, c, e, h⟩
  · exact .inl h
  · exact .inr ⟨X, c, e, h.below hb⟩
theorem clone_any (v : Value) (l : List UInt8) (w : World) (h : Arg w v l) (hl : l.length ≤ 1048576) :
    Calls Tryd.prog 6 #[v] w fun e w' => ∃ v', e = .returned v' ∧ Cl w' v' l ∧ Below w.heap.size w w' := by
  rcases h with ⟨rfl, rfl⟩ | ⟨X, c, rfl, hs⟩
  · exact (clone_nil w).mono fun e w' h => ⟨_, h.1, .inl ⟨rfl, rfl⟩, by rw [h.2]; exact Below.refl _ _⟩
  · exact (clone_at X l.length c l w rfl hl hs).mono fun e w' ⟨v', h1, h2, h3⟩ => ⟨v', h1, .inr h2, h3⟩

/-- A row that is not empty. -/
theorem Own.cells {B : Nat} {w : World} {v : Value} {l : List UInt8} (h : Own B w v l) (h0 : l ≠ []) : ∃ g cap, v = .slice (some ⟨g, 0, none⟩) l.length cap ∧ l.length ≤ cap ∧ g < w.heap.size ∧ Cells w g 0 l := by
  have key : ∀ g (cur : Array Value), w.heap[g]? = some (.cells cur 5 (0, 0)) → cur.toList.take l.length = Lib.byteCells l → Cells w g 0 l := fun g cur hg hc i hi => by
    rw [Nat.zero_add, cell_of_row w g i cur 5 (0, 0) hg, ← Array.getElem?_toList]
    have : (cur.toList.take l.length)[i]? = some (.int .u8 l[i].toNat) := by rw [hc]; simp [Lib.byteCells, hi]
    rwa [List.getElem?_take_of_lt hi] at this
  rcases h with h | ⟨g, cur, rfl, hg, hc⟩
  · rcases h.2 with ⟨rfl, e⟩ | ⟨g, cap, cur, rfl, _, hg, hn, _, _, ht⟩
    · exact (h0 (List.eq_nil_of_length_eq_zero e)).elim
    · exact ⟨g, cap, rfl, hn, (Array.getElem?_eq_some_iff.1 hg).1, key g cur hg (by rw [Nat.mul_one] at ht; exact ht)⟩
  · exact ⟨g, _, rfl, Nat.le_refl _, (Array.getElem?_eq_some_iff.1 hg).1, key g cur hg (by rw [hc]; exact List.take_of_length_le (by rw [Lib.byteCells_length]; exact Nat.le_refl _))⟩

/-- TWO ROWS OF THE SAME BYTES ARE EQUAL. -/
theorem eq_any {B B' : Nat} {w : World} {v1 v2 : Value} {l : List UInt8} (h1 : Own B w v1 l) (h2 : Own B' w v2 l) (hl : l.length ≤ 140737488355328) :
    Calls Tryd.prog 9 #[v1, v2] w fun e w' => e = .returned (.bool true) ∧ Below w.heap.size w w' := by
  by_cases h0 : l = []
  · subst h0
    obtain ⟨a1, n1, c1, rfl, e1⟩ := h1.shape
    obtain ⟨a2, n2, c2, rfl, e2⟩ := h2.shape
    have e1 : n1 = 0 := e1.out
    have e2 : n2 = 0 := e2.out
    subst e1 e2
    exact eq_zero a1 a2 c1 c2 w
  · obtain ⟨g1, c1, rfl, _, _, k1⟩ := h1.cells h0
    obtain ⟨g2, c2, rfl, _, _, k2⟩ := h2.cells h0
    exact eq_same g1 0 g2 0 l.length c1 c2 l w rfl hl k1 k2

/-- An item's text is not empty. -/
theorem item_ne {f : Nat} {l t : List UInt8} {n : Nat} (h : item f l = some (t, n)) : 1 ≤ t.length := by
  cases f with
  | zero => simp [item] at h
  | succ f =>
    rw [item] at h
    cases hh : head l with
    | none => rw [hh] at h; cases h
    | some y =>
      obtain ⟨mj, arg, hn⟩ := y
      rw [hh] at h
      simp only at h
      split at h
      · simp only [Option.some.injEq, Prod.mk.injEq] at h
        rw [← h.1]
        exact dec_pos arg
      split at h
      · split at h
        · simp only [Option.some.injEq, Prod.mk.injEq] at h
          rw [← h.1]; simp
        · cases h
      split at h
      · split at h
        · simp only [Option.some.injEq, Prod.mk.injEq] at h
          rw [← h.1]; simp
        · cases h
      split at h
      · split at h
        · cases h
        · simp only [Option.some.injEq, Prod.mk.injEq] at h
          rw [← h.1]; simp
      split at h
      · split at h
        · cases h
        · simp only [Option.some.injEq, Prod.mk.injEq] at h
          rw [← h.1]; simp
      split at h
      · split at h
        · cases h
        · rename_i t1 ht
          simp only [Option.some.injEq, Prod.mk.injEq] at h
          rw [← h.1]
          unfold lit7 at ht
          split at ht
          · cases ht; simp
          split at ht
          · cases ht; simp
          split at ht
          · cases ht; simp
          · cases ht
      · cases h
end Go.Proofs.Qxb6604022aDoor
