import Derived.Test.Qxb6602040aDoorClone
namespace Go.Proofs.Qxb6602040aDoor
open Go.RowKit

theorem Bytes.mid {w : World} {g o : Nat} {A F R : List UInt8} (h : Bytes w g o (A ++ F ++ R)) : Bytes w g (o + A.length) F := fun i hi => by
  have h1 : A.length + i < (A ++ F ++ R).length := by simp; omega
  rw [Nat.add_assoc, h (A.length + i) h1]
  congr 3
  rw [List.getElem_append_left (by simp; omega), List.getElem_append_right (by omega)]
  simp
theorem Bytes.below {w w' : World} {g o : Nat} {l : List UInt8} (h : Bytes w g o l) (hb : Below w.heap.size w w') (hg : g < w.heap.size) : Bytes w' g o l := fun i hi => by
  rw [hb.cell hg]; exact h i hi

/-- THE END OF A FIELD. -/
theorem fe_call (g c L p q : Nat) (l A F R : List UInt8) (w : World) (hl : l = A ++ F ++ R) (hF : ∀ b ∈ F, b ≠ 32) (hR : R = [] ∨ ∃ R', R = 32 :: R') (hL : L = l.length) (hL2 : L ≤ 140737488355328) (hp : p = A.length) (hq : q = A.length + F.length) (hb : Bytes w g 0 l) :
    Calls Tryd.prog 11 #[.slice (some ⟨g, 0, none⟩) L c, .int .i64 p] w fun en w' => en = .returned (.int .i64 q) ∧ w' = w := by
  subst hp hq
  refine fieldEnd_any g 0 L c A.length (A.length + F.length) l w hL hL2 hb (by omega) (by rw [hL, hl]; simp) ?_ ?_
  · intro i h h1 h2
    subst hl
    rw [List.getElem_append_left (by simp; omega), List.getElem_append_right (by omega)]
    exact hF _ (List.getElem_mem _)
  · intro h
    subst hl
    rcases hR with rfl | ⟨R', rfl⟩
    · simp at h
    · rw [List.getElem_append_right (by simp)]
      simp

theorem itoa_plain (x : Int) : ∀ b ∈ Lib.itoa x, b ≠ 32 ∧ b ≠ 44 := by
  have key : ∀ u, ∀ b ∈ Lib.decDigits u, b ≠ 32 ∧ b ≠ 44 := fun u b hb => by
    have := dec_digit u b hb
    constructor <;> (rintro rfl; simp at this)
  intro b hb
  unfold Lib.itoa at hb
  split at hb
  · rcases List.mem_cons.1 hb with rfl | hb
    · decide
    · exact key _ b hb
  · exact key _ b hb
theorem bjoin_plain : ∀ (l : List Int), ∀ b ∈ bjoin l, b ≠ 32
  | [], b, h => by simp [bjoin] at h
  | [x], b, h => (itoa_plain x b h).1
  | x :: y :: l, b, h => by
    simp only [bjoin, List.mem_append, List.mem_cons] at h
    rcases h with h | rfl | h
    · exact (itoa_plain x b h).1
    · decide
    · exact bjoin_plain (y :: l) b h
theorem itoa_pos (x : Int) : 1 ≤ (Lib.itoa x).length := by
  unfold Lib.itoa
  split
  · simp
  · exact dec_pos _
/-- The rest of the numbers, from the k-th on. -/
theorem bjoin_split : ∀ (l : List Int) (k : Nat) (h : k < l.length), ∃ A R, bjoin l = A ++ Lib.itoa l[k] ++ R ∧ (k + 1 < l.length → ∃ R', R = 44 :: R' ∧ bjoin l = (A ++ Lib.itoa l[k] ++ [44]) ++ bjoin (l.drop (k + 1))) ∧ (k + 1 = l.length → R = []) ∧ A ++ bjoin (l.drop k) = bjoin l
  | [x], 0, _ => ⟨[], [], by simp [bjoin], by simp, by simp, by simp⟩
  | x :: y :: l, 0, _ => ⟨[], 44 :: bjoin (y :: l), by simp [bjoin], fun _ => ⟨_, rfl, by simp [bjoin]⟩, by simp, by simp⟩
  | x :: y :: l, k + 1, h => by
    obtain ⟨A, R, h1, h2, h3, h4⟩ := bjoin_split (y :: l) k (by simpa using h)
    refine ⟨Lib.itoa x ++ 44 :: A, R, ?_, ?_, ?_, ?_⟩
    · show Lib.itoa x ++ 44 :: bjoin (y :: l) = _
      rw [h1]; simp
    · intro hk
      obtain ⟨R', e1, e2⟩ := h2 (by simpa using hk)
      refine ⟨R', e1, ?_⟩
      show Lib.itoa x ++ 44 :: bjoin (y :: l) = _
      rw [e2]; simp
    · intro hk; exact h3 (by simpa using hk)
    · show Lib.itoa x ++ 44 :: A ++ bjoin ((y :: l).drop k) = Lib.itoa x ++ 44 :: bjoin (y :: l)
      rw [← h4]; simp
end Go.Proofs.Qxb6602040aDoor
