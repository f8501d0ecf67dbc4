import Derived.Test.Qxb6604022aDoorSpec
namespace Go.Proofs.Qxb6604022aDoor

theorem beNat_lt : ∀ (l : List UInt8) (x k : Nat), x < 256 ^ k → beNat x l < 256 ^ (k + l.length)
  | [], x, k, h => h
  | c :: l, x, k, h => by
    rw [beNat]
    have := beNat_lt l (x * 256 + c.toNat) (k + 1) (by rw [Nat.pow_succ]; have := UInt8.toNat_lt c; omega)
    rw [List.length_cons, show k + (l.length + 1) = k + 1 + l.length from by omega]
    exact this
theorem beNat_snoc : ∀ (l : List UInt8) (x : Nat) (c : UInt8), beNat x (l ++ [c]) = beNat x l * 256 + c.toNat
  | [], _, _ => rfl
  | d :: l, x, c => by rw [List.cons_append, beNat, beNat, beNat_snoc l]

theorem nDigits_le : ∀ (k u : Nat), u < 10 ^ (k + 1) → (Lib.decDigits u).length ≤ k + 1
  | 0, u, h => by
    rw [Lib.decDigits, dif_pos (by omega)]
    simp
  | k + 1, u, h => by
    rw [Lib.decDigits]
    split
    · simp
    · have := nDigits_le k (u / 10) (by rw [Nat.pow_succ] at h; omega)
      simp
      omega
theorem dec_len (u : Nat) (h : u < 18446744073709551616) : (Lib.decDigits u).length ≤ 20 := nDigits_le 19 u (Nat.lt_of_lt_of_le h (by decide))
theorem dec_pos (u : Nat) : 1 ≤ (Lib.decDigits u).length := by
  rw [Lib.decDigits]; split <;> simp

theorem size_le8 (c : Nat) (h : c % 32 ≤ 27) (h2 : ¬ c % 32 < 24) : 1 ≤ 2 ^ (c % 32 - 24) ∧ 2 ^ (c % 32 - 24) ≤ 8 := by
  have : c % 32 = 24 ∨ c % 32 = 25 ∨ c % 32 = 26 ∨ c % 32 = 27 := by omega
  rcases this with h | h | h | h <;> rw [h] <;> decide

theorem head_cons (c : UInt8) (r : List UInt8) : head (c :: r) = if c.toNat % 32 < 24 then some (c.toNat / 32, c.toNat % 32, 1)
    else if c.toNat % 32 ≤ 27 then
      if 2 ^ (c.toNat % 32 - 24) ≤ r.length then some (c.toNat / 32, beNat 0 (r.take (2 ^ (c.toNat % 32 - 24))), 1 + 2 ^ (c.toNat % 32 - 24)) else none
    else none := rfl
theorem head_bnd {l : List UInt8} {mj arg hn : Nat} (h : head l = some (mj, arg, hn)) : 1 ≤ hn ∧ hn ≤ 9 ∧ hn ≤ l.length ∧ arg < 18446744073709551616 ∧ mj ≤ 7 := by
  cases l with
  | nil => simp [head] at h
  | cons c r =>
    have hc := UInt8.toNat_lt c
    rw [head_cons] at h
    split at h
    · simp only [Option.some.injEq, Prod.mk.injEq] at h
      obtain ⟨rfl, rfl, rfl⟩ := h
      simp
      omega
    · split at h
      · have h8 := size_le8 c.toNat ‹_› ‹_›
        split at h
        · simp only [Option.some.injEq, Prod.mk.injEq] at h
          obtain ⟨rfl, rfl, rfl⟩ := h
          have hb := beNat_lt (r.take (2 ^ (c.toNat % 32 - 24))) 0 0 (by decide)
          have hl : (r.take (2 ^ (c.toNat % 32 - 24))).length ≤ 8 := by rw [List.length_take]; omega
          have hp : 256 ^ (0 + (r.take (2 ^ (c.toNat % 32 - 24))).length) ≤ 256 ^ 8 := Nat.pow_le_pow_right (by decide) (by omega)
          have hv : (256 : Nat) ^ 8 = 18446744073709551616 := by decide
          simp only [List.length_cons]
          refine ⟨by omega, by omega, by omega, by omega, by omega⟩
        · cases h
      · cases h

theorem esc_len (c : UInt8) : 1 ≤ (esc c).length ∧ (esc c).length ≤ 6 := by
  unfold esc
  repeat' split
  all_goals simp
theorem escs_len (l : List UInt8) : (escs l).length ≤ 6 * l.length := by
  induction l with
  | nil => simp [escs]
  | cons c l ih =>
    have := esc_len c
    simp only [escs, List.flatMap_cons, List.length_append, List.length_cons] at ih ⊢
    omega

/-- What a reader of items keeps to. -/
def Bnd (g : List UInt8 → Option (List UInt8 × Nat)) : Prop := ∀ l t n, g l = some (t, n) → 1 ≤ n ∧ n ≤ l.length ∧ t.length + 2 ≤ 24 * n

theorem elems_bnd {g : List UInt8 → Option (List UInt8 × Nat)} (hg : Bnd g) (mem : Bool) : ∀ k fst l t n, elems g mem k fst l = some (t, n) → k ≤ n ∧ n ≤ l.length ∧ t.length ≤ 24 * n
  | 0, _, l, t, n, h => by
    simp only [elems, Option.some.injEq, Prod.mk.injEq] at h
    obtain ⟨rfl, rfl⟩ := h
    simp
  | k + 1, fst, l, t, n, h => by
    rw [elems] at h
    cases h1 : g l with
    | none => rw [h1] at h; cases h
    | some y =>
      obtain ⟨t1, n1⟩ := y
      have b1 := hg _ _ _ h1
      rw [h1] at h
      cases mem with
      | false =>
        simp only [Bool.false_eq_true, if_false, Nat.add_zero, List.append_nil] at h
        cases h3 : elems g false k false (l.drop n1) with
        | none => rw [h3] at h; cases h
        | some z =>
          obtain ⟨t3, n3⟩ := z
          have b3 := elems_bnd hg false k false _ _ _ h3
          rw [h3] at h
          simp only [Option.some.injEq, Prod.mk.injEq] at h
          obtain ⟨rfl, rfl⟩ := h
          rw [List.length_drop] at b3
          refine ⟨by omega, by omega, ?_⟩
          cases fst <;> simp <;> omega
      | true =>
        simp only [if_true] at h
        cases h2 : g (l.drop n1) with
        | none => rw [h2] at h; cases h
        | some y2 =>
          obtain ⟨t2, n2⟩ := y2
          have b2 := hg _ _ _ h2
          rw [h2] at h
          simp only at h
          cases h3 : elems g true k false (l.drop (n1 + n2)) with
          | none => rw [h3] at h; cases h
          | some z =>
            obtain ⟨t3, n3⟩ := z
            have b3 := elems_bnd hg true k false _ _ _ h3
            rw [h3] at h
            simp only [Option.some.injEq, Prod.mk.injEq] at h
            obtain ⟨rfl, rfl⟩ := h
            rw [List.length_drop] at b3 b2
            refine ⟨by omega, by omega, ?_⟩
            cases fst <;> simp <;> omega

theorem lit7_len {c : Nat} {t : List UInt8} (h : lit7 c = some t) : t.length ≤ 5 := by
  unfold lit7 at h
  repeat' split at h
  all_goals first | (cases h; done) | (simp only [Option.some.injEq] at h; subst h; simp)

theorem item_bnd : ∀ f, Bnd (item f)
  | 0, _, _, _, h => by simp [item] at h
  | f + 1, l, t, n, h => by
    have ih := item_bnd f
    rw [item] at h
    cases hh : head l with
    | none => rw [hh] at h; cases h
    | some y =>
      obtain ⟨mj, arg, hn⟩ := y
      have hb := head_bnd hh
      rw [hh] at h
      simp only at h
      split at h
      · simp only [Option.some.injEq, Prod.mk.injEq] at h
        obtain ⟨rfl, rfl⟩ := h
        have := dec_len arg hb.2.2.2.1
        omega
      split at h
      · split at h
        · simp only [Option.some.injEq, Prod.mk.injEq] at h
          obtain ⟨rfl, rfl⟩ := h
          have := dec_len (arg + 1) (by omega)
          simp only [List.length_cons]
          omega
        · cases h
      split at h
      · split at h
        · simp only [Option.some.injEq, Prod.mk.injEq] at h
          obtain ⟨rfl, rfl⟩ := h
          have := escs_len ((l.drop hn).take arg)
          rw [List.length_take, List.length_drop] at this
          rename_i h5
          rw [List.length_drop] at h5
          simp only [List.length_cons, List.length_append, List.length_nil]
          omega
        · cases h
      split at h
      · cases he : elems (item f) false arg true (l.drop hn) with
        | none => rw [he] at h; cases h
        | some z =>
          obtain ⟨t3, n3⟩ := z
          have b3 := elems_bnd ih false _ _ _ _ _ he
          rw [he] at h
          simp only [Option.some.injEq, Prod.mk.injEq] at h
          obtain ⟨rfl, rfl⟩ := h
          rw [List.length_drop] at b3
          simp only [List.length_cons, List.length_append, List.length_nil]
          omega
      split at h
      · cases he : elems (item f) true arg true (l.drop hn) with
        | none => rw [he] at h; cases h
        | some z =>
          obtain ⟨t3, n3⟩ := z
          have b3 := elems_bnd ih true _ _ _ _ _ he
          rw [he] at h
          simp only [Option.some.injEq, Prod.mk.injEq] at h
          obtain ⟨rfl, rfl⟩ := h
          rw [List.length_drop] at b3
          simp only [List.length_cons, List.length_append, List.length_nil]
          omega
      split at h
      · cases h7 : lit7 ((l.headD 0).toNat) with
        | none => rw [h7] at h; cases h
        | some z =>
          have := lit7_len h7
          rw [h7] at h
          simp only [Option.some.injEq, Prod.mk.injEq] at h
          obtain ⟨rfl, rfl⟩ := h
          omega
      · cases h

/-! ### An item hangs on its own bytes alone -/
def Pre (g : List UInt8 → Option (List UInt8 × Nat)) : Prop := ∀ l t n m, g l = some (t, n) → n ≤ m → g (l.take m) = some (t, n)

theorem head_pre {l : List UInt8} {mj arg hn m : Nat} (h : head l = some (mj, arg, hn)) (hm : hn ≤ m) : head (l.take m) = some (mj, arg, hn) := by
  have hb := head_bnd h
  cases l with
  | nil => simp [head] at h
  | cons c r =>
    obtain ⟨m, rfl⟩ : ∃ k, m = k + 1 := ⟨m - 1, by omega⟩
    rw [List.take_succ_cons]
    rw [head_cons] at h ⊢
    split at h
    · rw [if_pos ‹_›]; exact h
    · rw [if_neg ‹_›]
      split at h
      · rw [if_pos ‹_›]
        split at h
        · simp only [Option.some.injEq, Prod.mk.injEq] at h
          obtain ⟨rfl, rfl, rfl⟩ := h
          rw [if_pos (by rw [List.length_take]; omega), List.take_take, Nat.min_eq_left (by omega)]
        · cases h
      · cases h

theorem drop_take_sub (l : List UInt8) (m k : Nat) : (l.take m).drop k = (l.drop k).take (m - k) := List.drop_take

theorem elems_pre {g : List UInt8 → Option (List UInt8 × Nat)} (hg : Pre g) (mem : Bool) : ∀ k fst l t n m, elems g mem k fst l = some (t, n) → n ≤ m → elems g mem k fst (l.take m) = some (t, n)
  | 0, _, l, t, n, m, h, _ => h
  | k + 1, fst, l, t, n, m, h, hm => by
    rw [elems] at h ⊢
    cases h1 : g l with
    | none => rw [h1] at h; cases h
    | some y =>
      obtain ⟨t1, n1⟩ := y
      rw [h1] at h
      cases mem with
      | false =>
        simp only [Bool.false_eq_true, if_false, Nat.add_zero, List.append_nil] at h ⊢
        cases h3 : elems g false k false (l.drop n1) with
        | none => rw [h3] at h; cases h
        | some z =>
          obtain ⟨t3, n3⟩ := z
          rw [h3] at h
          simp only [Option.some.injEq, Prod.mk.injEq] at h
          obtain ⟨rfl, rfl⟩ := h
          rw [hg _ _ _ m h1 (by omega)]
          simp only
          rw [drop_take_sub, elems_pre hg false k false _ _ _ (m - n1) h3 (by omega)]
      | true =>
        simp only [if_true] at h ⊢
        cases h2 : g (l.drop n1) with
        | none => rw [h2] at h; cases h
        | some y2 =>
          obtain ⟨t2, n2⟩ := y2
          rw [h2] at h
          simp only at h
          cases h3 : elems g true k false (l.drop (n1 + n2)) with
          | none => rw [h3] at h; cases h
          | some z =>
            obtain ⟨t3, n3⟩ := z
            rw [h3] at h
            simp only [Option.some.injEq, Prod.mk.injEq] at h
            obtain ⟨rfl, rfl⟩ := h
            rw [hg _ _ _ m h1 (by omega)]
            simp only
            rw [drop_take_sub, hg _ _ _ (m - n1) h2 (by omega)]
            simp only
            rw [drop_take_sub, elems_pre hg true k false _ _ _ (m - (n1 + n2)) h3 (by omega)]

theorem item_pre : ∀ f, Pre (item f)
  | 0, _, _, _, _, h, _ => by simp [item] at h
  | f + 1, l, t, n, m, h, hm => by
    have ih := item_pre f
    have hbn := item_bnd (f + 1) _ _ _ h
    rw [item] at h ⊢
    cases hh : head l with
    | none => rw [hh] at h; cases h
    | some y =>
      obtain ⟨mj, arg, hn⟩ := y
      have hb := head_bnd hh
      rw [hh] at h
      simp only at h
      have hnn : hn ≤ n := by
        repeat' split at h
        all_goals first | (cases h; done) | (simp only [Option.some.injEq, Prod.mk.injEq] at h; omega)
      rw [head_pre hh (by omega)]
      simp only
      split at h
      · rw [if_pos ‹_›]; exact h
      rw [if_neg ‹_›]
      split at h
      · rw [if_pos ‹_›]; exact h
      rw [if_neg ‹_›]
      split at h
      · rw [if_pos ‹_›]
        split at h
        · simp only [Option.some.injEq, Prod.mk.injEq] at h
          obtain ⟨rfl, rfl⟩ := h
          rename_i h5
          rw [drop_take_sub, if_pos (by rw [List.length_take]; omega), List.take_take, Nat.min_eq_left (by omega)]
        · cases h
      rw [if_neg ‹_›]
      split at h
      · rw [if_pos ‹_›]
        cases he : elems (item f) false arg true (l.drop hn) with
        | none => rw [he] at h; cases h
        | some z =>
          obtain ⟨t3, n3⟩ := z
          rw [he] at h
          simp only [Option.some.injEq, Prod.mk.injEq] at h
          obtain ⟨rfl, rfl⟩ := h
          rw [drop_take_sub, elems_pre ih false _ _ _ _ _ (m - hn) he (by omega)]
      rw [if_neg ‹_›]
      split at h
      · rw [if_pos ‹_›]
        cases he : elems (item f) true arg true (l.drop hn) with
        | none => rw [he] at h; cases h
        | some z =>
          obtain ⟨t3, n3⟩ := z
          rw [he] at h
          simp only [Option.some.injEq, Prod.mk.injEq] at h
          obtain ⟨rfl, rfl⟩ := h
          rw [drop_take_sub, elems_pre ih true _ _ _ _ _ (m - hn) he (by omega)]
      rw [if_neg ‹_›]
      split at h
      · rw [if_pos ‹_›]
        have e : (l.take m).headD 0 = l.headD 0 := by
          cases l with
          | nil => simp
          | cons c r =>
            obtain ⟨m, rfl⟩ : ∃ k, m = k + 1 := ⟨m - 1, by omega⟩
            rfl
        rw [e]
        exact h
      · cases h
end Go.Proofs.Qxb6604022aDoor
