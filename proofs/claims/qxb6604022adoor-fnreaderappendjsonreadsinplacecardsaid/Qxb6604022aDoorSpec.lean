import Derived.Lib.ItoaNum
namespace Go.Proofs.Qxb6604022aDoor

/-! ### The plain side: a reader of canonical CBOR that writes JSON, by recursion; no Go in sight -/

def hexd (v : Nat) : UInt8 := if v < 10 then UInt8.ofNat (48 + v) else UInt8.ofNat (87 + v)
/-- The JSON form of a byte of a string. -/
def esc (c : UInt8) : List UInt8 :=
  if c = 34 then [92, 34] else if c = 92 then [92, 92] else if c = 8 then [92, 98] else if c = 12 then [92, 102] else if c = 10 then [92, 110] else if c = 13 then [92, 114] else if c = 9 then [92, 116]
  else if c.toNat < 32 then [92, 117, 48, 48, hexd (c.toNat / 16), hexd (c.toNat % 16)] else [c]
def escs (l : List UInt8) : List UInt8 := l.flatMap esc

/-- Big-endian number of bytes. -/
def beNat : Nat → List UInt8 → Nat
  | x, [] => x
  | x, c :: l => beNat (x * 256 + c.toNat) l

/-- The head of an item: major type, argument, how many bytes it takes. -/
def head : List UInt8 → Option (Nat × Nat × Nat)
  | [] => none
  | c :: r =>
    if c.toNat % 32 < 24 then some (c.toNat / 32, c.toNat % 32, 1)
    else if c.toNat % 32 ≤ 27 then
      if 2 ^ (c.toNat % 32 - 24) ≤ r.length then some (c.toNat / 32, beNat 0 (r.take (2 ^ (c.toNat % 32 - 24))), 1 + 2 ^ (c.toNat % 32 - 24)) else none
    else none

/-- The false, true or null of a head's first byte. -/
def lit7 (c : Nat) : Option (List UInt8) :=
  if c = 244 then some [102, 97, 108, 115, 101] else if c = 245 then some [116, 114, 117, 101] else if c = 246 then some [110, 117, 108, 108] else none

/-- 'count' elements (mem: members) by the reader g, commas between. -/
def elems (g : List UInt8 → Option (List UInt8 × Nat)) (mem : Bool) : Nat → Bool → List UInt8 → Option (List UInt8 × Nat)
  | 0, _, _ => some ([], 0)
  | k + 1, fst, l =>
    match g l with
    | none => none
    | some (t1, n1) =>
      match (if mem then (match g (l.drop n1) with | none => none | some (t2, n2) => some (58 :: t2, n2)) else some ([], 0)) with
      | none => none
      | some (t2, n2) =>
        match elems g mem k false (l.drop (n1 + n2)) with
        | none => none
        | some (t3, n3) => some ((if fst then [] else [44]) ++ t1 ++ t2 ++ t3, n1 + n2 + n3)

/-- One item: its JSON text and how many bytes it takes. -/
def item : Nat → List UInt8 → Option (List UInt8 × Nat)
  | 0, _ => none
  | f + 1, l =>
    match head l with
    | none => none
    | some (mj, arg, hn) =>
      if mj = 0 then some (Lib.decDigits arg, hn)
      else if mj = 1 then (if arg ≤ 9223372036854775807 then some (45 :: Lib.decDigits (arg + 1), hn) else none)
      else if mj = 3 then (if arg ≤ (l.drop hn).length then some (34 :: (escs ((l.drop hn).take arg) ++ [34]), hn + arg) else none)
      else if mj = 4 then
        match elems (item f) false arg true (l.drop hn) with
        | none => none
        | some (t, n) => some (91 :: (t ++ [93]), hn + n)
      else if mj = 5 then
        match elems (item f) true arg true (l.drop hn) with
        | none => none
        | some (t, n) => some (123 :: (t ++ [125]), hn + n)
      else if mj = 7 then
        match lit7 ((l.headD 0).toNat) with
        | none => none
        | some t => some (t, hn)
      else none

theorem elems_mono {g g' : List UInt8 → Option (List UInt8 × Nat)} (hg : ∀ l x, g l = some x → g' l = some x) (mem : Bool) :
    ∀ k fst l x, elems g mem k fst l = some x → elems g' mem k fst l = some x
  | 0, _, _, x, h => h
  | k + 1, fst, l, x, h => by
    simp only [elems] at h ⊢
    cases h1 : g l with
    | none => simp [h1] at h
    | some y =>
      obtain ⟨t1, n1⟩ := y
      rw [hg _ _ h1]
      simp only [h1] at h ⊢
      cases mem with
      | false =>
        simp only [Bool.false_eq_true, if_false] at h ⊢
        cases h3 : elems g false k false (l.drop (n1 + 0)) with
        | none => rw [h3] at h; cases h
        | some z => rw [h3] at h; rw [elems_mono hg false k false _ _ h3]; exact h
      | true =>
        simp only [if_true] at h ⊢
        cases h2 : g (l.drop n1) with
        | none => simp [h2] at h
        | some y2 =>
          obtain ⟨t2, n2⟩ := y2
          rw [hg _ _ h2]
          simp only [h2] at h ⊢
          cases h3 : elems g true k false (l.drop (n1 + n2)) with
          | none => rw [h3] at h; cases h
          | some z => rw [h3] at h; rw [elems_mono hg true k false _ _ h3]; exact h

theorem item_mono : ∀ f l x, item f l = some x → item (f + 1) l = some x
  | 0, _, _, h => by simp [item] at h
  | f + 1, l, x, h => by
    have ih := item_mono f
    rw [item] at h ⊢
    cases hh : head l with
    | none => simp [hh] at h
    | some y =>
      obtain ⟨mj, arg, hn⟩ := y
      simp only [hh] at h ⊢
      split at h
      · rw [if_pos ‹_›]; exact h
      rw [if_neg ‹_›]
      split at h
      · rw [if_pos ‹_›]; exact h
      rw [if_neg ‹_›]
      split at h
      · rw [if_pos ‹_›]; exact h
      rw [if_neg ‹_›]
      split at h
      · rw [if_pos ‹_›]
        cases he : elems (item f) false arg true (l.drop hn) with
        | none => simp [he] at h
        | some z => rw [elems_mono ih false _ _ _ _ he]; simpa [he] using h
      rw [if_neg ‹_›]
      split at h
      · rw [if_pos ‹_›]
        cases he : elems (item f) true arg true (l.drop hn) with
        | none => simp [he] at h
        | some z => rw [elems_mono ih true _ _ _ _ he]; simpa [he] using h
      rw [if_neg ‹_›]
      exact h

theorem item_le {f f' : Nat} (h : f ≤ f') {l : List UInt8} {x : List UInt8 × Nat} (hx : item f l = some x) : item f' l = some x := by
  induction h with
  | refl => exact hx
  | step _ ih => exact item_mono _ _ _ ih

theorem item_open (f : Nat) (l : List UInt8) (mem : Bool) (arg hn : Nat) (t : List UInt8) (n : Nat) (hh : head l = some (if mem then 5 else 4, arg, hn)) (he : elems (item f) mem arg true (l.drop hn) = some (t, n)) :
    item (f + 1) l = some ((if mem then 123 else 91) :: (t ++ [if mem then 125 else 93]), hn + n) := by
  rw [item, hh]
  cases mem <;> simp [he]

/-! ### The stack of open containers, the top first -/
structure Fr where
  left : Nat
  isMap : Bool
  want : Bool
  fin : UInt8

/-- What the top container still holds, an item of it just read. -/
def frameRest (g : List UInt8 → Option (List UInt8 × Nat)) (fr : Fr) (l : List UInt8) : Option (List UInt8 × Nat) :=
  if fr.isMap && !fr.want then
    match g l with
    | none => none
    | some (t1, n1) =>
      match elems g true (fr.left - 1) false (l.drop n1) with
      | none => none
      | some (t2, n2) => some (58 :: (t1 ++ t2 ++ [fr.fin]), n1 + n2)
  else
    match elems g fr.isMap (fr.left - 1) false l with
    | none => none
    | some (t2, n2) => some (t2 ++ [fr.fin], n2)
/-- What all containers still hold, an item just read. -/
def after (g : List UInt8 → Option (List UInt8 × Nat)) : List Fr → List UInt8 → Option (List UInt8 × Nat)
  | [], _ => some ([], 0)
  | fr :: s, l =>
    match frameRest g fr l with
    | none => none
    | some (t1, n1) =>
      match after g s (l.drop n1) with
      | none => none
      | some (t2, n2) => some (t1 ++ t2, n1 + n2)
/-- An item, then all that the containers still hold. -/
def full (g : List UInt8 → Option (List UInt8 × Nat)) (s : List Fr) (l : List UInt8) : Option (List UInt8 × Nat) :=
  match g l with
  | none => none
  | some (t1, n1) =>
    match after g s (l.drop n1) with
    | none => none
    | some (t2, n2) => some (t1 ++ t2, n1 + n2)

theorem frameRest_mono {g g' : List UInt8 → Option (List UInt8 × Nat)} (hg : ∀ l x, g l = some x → g' l = some x) (fr : Fr) (l : List UInt8) (x : List UInt8 × Nat) (h : frameRest g fr l = some x) : frameRest g' fr l = some x := by
  unfold frameRest at h ⊢
  split at h
  · rw [if_pos ‹_›]
    cases h1 : g l with
    | none => rw [h1] at h; cases h
    | some y =>
      obtain ⟨t1, n1⟩ := y
      rw [h1] at h
      rw [hg _ _ h1]
      simp only at h ⊢
      cases h2 : elems g true (fr.left - 1) false (l.drop n1) with
      | none => rw [h2] at h; cases h
      | some z => rw [h2] at h; rw [elems_mono hg _ _ _ _ _ h2]; exact h
  · rw [if_neg ‹_›]
    cases h2 : elems g fr.isMap (fr.left - 1) false l with
    | none => rw [h2] at h; cases h
    | some z => rw [h2] at h; rw [elems_mono hg _ _ _ _ _ h2]; exact h
theorem after_mono {g g' : List UInt8 → Option (List UInt8 × Nat)} (hg : ∀ l x, g l = some x → g' l = some x) : ∀ (s : List Fr) (l : List UInt8) (x : List UInt8 × Nat), after g s l = some x → after g' s l = some x
  | [], _, _, h => h
  | fr :: s, l, x, h => by
    rw [after] at h ⊢
    cases h1 : frameRest g fr l with
    | none => rw [h1] at h; cases h
    | some y =>
      obtain ⟨t1, n1⟩ := y
      rw [h1] at h
      rw [frameRest_mono hg _ _ _ h1]
      simp only at h ⊢
      cases h2 : after g s (l.drop n1) with
      | none => rw [h2] at h; cases h
      | some z => rw [h2] at h; rw [after_mono hg _ _ _ h2]; exact h

/-- The state of the machine, an item to be read at p: whatever completes it completes the whole. -/
def Good (d b : List UInt8) (pos : Nat) (out : List UInt8) (p : Nat) (fs : List Fr) : Prop :=
  ∀ f t n, full (item f) fs (d.drop p) = some (t, n) → ∃ f' t0 n0, item f' (d.drop pos) = some (t0, n0) ∧ b ++ t0 = out ++ t ∧ pos + n0 = p + n
/-- The same, an item just read. -/
def GoodA (d b : List UInt8) (pos : Nat) (out : List UInt8) (p : Nat) (fs : List Fr) : Prop :=
  ∀ f t n, after (item f) fs (d.drop p) = some (t, n) → ∃ f' t0 n0, item f' (d.drop pos) = some (t0, n0) ∧ b ++ t0 = out ++ t ∧ pos + n0 = p + n

section
variable {d b : List UInt8} {pos : Nat} {out : List UInt8} {p : Nat} {fs : List Fr}

theorem Good.start (d b : List UInt8) (pos : Nat) : Good d b pos b pos [] := fun f t n h => by
  unfold full at h
  cases h1 : item f (d.drop pos) with
  | none => rw [h1] at h; cases h
  | some y =>
    obtain ⟨t1, n1⟩ := y
    rw [h1] at h
    simp only [after, List.append_nil, Nat.add_zero, Option.some.injEq, Prod.mk.injEq] at h
    obtain ⟨rfl, rfl⟩ := h
    exact ⟨f, t1, n1, h1, rfl, rfl⟩

theorem Good.leaf (h : Good d b pos out p fs) (t1 : List UInt8) (n1 : Nat) (hi : item 1 (d.drop p) = some (t1, n1)) : GoodA d b pos (out ++ t1) (p + n1) fs := fun f t n ha => by
  have h1 : full (item (f + 1)) fs (d.drop p) = some (t1 ++ t, n1 + n) := by
    unfold full
    rw [item_le (Nat.le_add_left 1 f) hi]
    simp only
    rw [List.drop_drop, after_mono (item_mono f) _ _ _ ha]
  obtain ⟨f', t0, n0, e1, e2, e3⟩ := h (f + 1) _ _ h1
  exact ⟨f', t0, n0, e1, by rw [e2, List.append_assoc], by omega⟩

theorem Good.open_ (h : Good d b pos out p fs) (mem : Bool) (arg hn : Nat) (hh : head (d.drop p) = some (if mem then 5 else 4, arg, hn)) (ha : arg ≠ 0) :
    Good d b pos (out ++ [if mem then 123 else 91]) (p + hn) (⟨arg, mem, false, if mem then 125 else 93⟩ :: fs) := fun f t n hf => by
  obtain ⟨k, rfl⟩ : ∃ k, arg = k + 1 := ⟨arg - 1, by omega⟩
  have key : ∃ tt nn tr nr, elems (item f) mem (k + 1) true (d.drop (p + hn)) = some (tt, nn) ∧ after (item f) fs (d.drop (p + hn + nn)) = some (tr, nr) ∧ t = tt ++ [if mem then 125 else 93] ++ tr ∧ n = nn + nr := by
    unfold full at hf
    cases h1 : item f (d.drop (p + hn)) with
    | none => rw [h1] at hf; cases hf
    | some y =>
      obtain ⟨t1, n1⟩ := y
      rw [h1] at hf
      simp only [List.drop_drop] at hf
      rw [after] at hf
      unfold frameRest at hf
      cases mem with
      | false =>
        simp only [Bool.false_and, Bool.false_eq_true, if_false, Nat.add_sub_cancel] at hf ⊢
        cases h2 : elems (item f) false k false (d.drop (p + hn + n1)) with
        | none => rw [h2] at hf; cases hf
        | some z =>
          obtain ⟨t2, n2⟩ := z
          rw [h2] at hf
          simp only [List.drop_drop] at hf
          cases h3 : after (item f) fs (d.drop (p + hn + n1 + n2)) with
          | none => rw [h3] at hf; cases hf
          | some z3 =>
            obtain ⟨t3, n3⟩ := z3
            rw [h3] at hf
            simp only [Option.some.injEq, Prod.mk.injEq] at hf
            obtain ⟨rfl, rfl⟩ := hf
            refine ⟨t1 ++ t2, n1 + n2, t3, n3, ?_, by rw [← Nat.add_assoc]; exact h3, by simp, by omega⟩
            rw [elems, h1]
            simp only [Bool.false_eq_true, if_false, Nat.add_zero, List.drop_drop, h2]
            simp
      | true =>
        simp only [Bool.not_false, Bool.and_self, if_true, Nat.add_sub_cancel] at hf ⊢
        cases h2 : item f (d.drop (p + hn + n1)) with
        | none => rw [h2] at hf; cases hf
        | some z =>
          obtain ⟨t2, n2⟩ := z
          rw [h2] at hf
          simp only [List.drop_drop] at hf
          cases h4 : elems (item f) true k false (d.drop (p + hn + n1 + n2)) with
          | none => rw [h4] at hf; cases hf
          | some z4 =>
            obtain ⟨t4, n4⟩ := z4
            rw [h4] at hf
            simp only at hf
            cases h3 : after (item f) fs (d.drop (p + hn + n1 + (n2 + n4))) with
            | none => rw [h3] at hf; cases hf
            | some z3 =>
              obtain ⟨t3, n3⟩ := z3
              rw [h3] at hf
              simp only [Option.some.injEq, Prod.mk.injEq] at hf
              obtain ⟨rfl, rfl⟩ := hf
              refine ⟨t1 ++ 58 :: t2 ++ t4, n1 + n2 + n4, t3, n3, ?_, by rw [show p + hn + (n1 + n2 + n4) = p + hn + n1 + (n2 + n4) from by omega]; exact h3, by simp, by omega⟩
              rw [elems, h1]
              simp only [if_true, List.drop_drop, h2]
              rw [show p + hn + (n1 + n2) = p + hn + n1 + n2 from by omega, h4]
              simp
  obtain ⟨tt, nn, tr, nr, e1, e2, rfl, rfl⟩ := key
  have hfull : full (item (f + 1)) fs (d.drop p) = some ((if mem then 123 else 91) :: (tt ++ [if mem then 125 else 93]) ++ tr, hn + nn + nr) := by
    unfold full
    rw [item_open f _ mem (k + 1) hn tt nn hh (by rw [List.drop_drop]; exact e1)]
    simp only [List.drop_drop]
    rw [show p + (hn + nn) = p + hn + nn from by omega, after_mono (item_mono f) _ _ _ e2]
  obtain ⟨f', t0, n0, e4, e5, e6⟩ := h (f + 1) _ _ hfull
  exact ⟨f', t0, n0, e4, by rw [e5]; simp, by omega⟩

theorem GoodA.colon {fr : Fr} (h : GoodA d b pos out p (fr :: fs)) (h1 : fr.isMap = true) (h2 : fr.want = false) : Good d b pos (out ++ [58]) p (⟨fr.left, true, true, fr.fin⟩ :: fs) := fun f t n hf => by
  have key : after (item f) (fr :: fs) (d.drop p) = some (58 :: t, n) := by
    unfold full at hf
    rw [after]
    unfold frameRest
    simp only [h1, h2, Bool.not_false, Bool.and_self, if_true]
    cases e1 : item f (d.drop p) with
    | none => rw [e1] at hf; cases hf
    | some y =>
      obtain ⟨t1, n1⟩ := y
      rw [e1] at hf
      simp only at hf
      rw [after] at hf
      unfold frameRest at hf
      simp only [Bool.not_true, Bool.and_false, Bool.false_eq_true, if_false, List.drop_drop] at hf ⊢
      cases e2 : elems (item f) true (fr.left - 1) false (d.drop (p + n1)) with
      | none => rw [e2] at hf; cases hf
      | some z =>
        obtain ⟨t2, n2⟩ := z
        rw [e2] at hf
        simp only at hf ⊢
        rw [show p + (n1 + n2) = p + n1 + n2 from by omega]
        cases e3 : after (item f) fs (d.drop (p + n1 + n2)) with
        | none => rw [e3] at hf; cases hf
        | some z3 =>
          obtain ⟨t3, n3⟩ := z3
          rw [e3] at hf
          simp only [Option.some.injEq, Prod.mk.injEq] at hf ⊢
          obtain ⟨rfl, rfl⟩ := hf
          exact ⟨by simp, by omega⟩
  obtain ⟨f', t0, n0, e4, e5, e6⟩ := h f _ _ key
  exact ⟨f', t0, n0, e4, by rw [e5]; simp, by omega⟩

theorem GoodA.comma {fr : Fr} (h : GoodA d b pos out p (fr :: fs)) (h1 : (fr.isMap && !fr.want) = false) (h2 : 2 ≤ fr.left) : Good d b pos (out ++ [44]) p (⟨fr.left - 1, fr.isMap, false, fr.fin⟩ :: fs) := fun f t n hf => by
  obtain ⟨left, isMap, want, fin⟩ := fr
  simp only at h1 h2 hf ⊢
  obtain ⟨k, rfl⟩ : ∃ k, left = k + 2 := ⟨left - 2, by omega⟩
  have key : after (item f) (⟨k + 2, isMap, want, fin⟩ :: fs) (d.drop p) = some (44 :: t, n) := by
    unfold full at hf
    rw [after]
    unfold frameRest
    simp only [h1, Bool.false_eq_true, if_false]
    rw [show k + 2 - 1 = k + 1 from by omega] at hf
    rw [show k + 2 - 1 = k + 1 from by omega]
    rw [elems]
    cases e1 : item f (d.drop p) with
    | none => rw [e1] at hf; cases hf
    | some y =>
      obtain ⟨t1, n1⟩ := y
      rw [e1] at hf
      simp only at hf
      rw [after] at hf
      unfold frameRest at hf
      cases isMap with
      | false =>
        simp only [Bool.false_and, Bool.false_eq_true, if_false, List.drop_drop, Nat.add_sub_cancel, Nat.add_zero] at hf ⊢
        cases e2 : elems (item f) false k false (d.drop (p + n1)) with
        | none => rw [e2] at hf; cases hf
        | some z =>
          obtain ⟨t2, n2⟩ := z
          rw [e2] at hf
          simp only at hf ⊢
          rw [show p + (n1 + n2) = p + n1 + n2 from by omega]
          cases e3 : after (item f) fs (d.drop (p + n1 + n2)) with
          | none => rw [e3] at hf; cases hf
          | some z3 =>
            obtain ⟨t3, n3⟩ := z3
            rw [e3] at hf
            simp only [Option.some.injEq, Prod.mk.injEq] at hf ⊢
            obtain ⟨rfl, rfl⟩ := hf
            exact ⟨by simp, by omega⟩
      | true =>
        simp only [Bool.not_false, Bool.and_self, if_true, Nat.add_sub_cancel, List.drop_drop] at hf ⊢
        cases e2 : item f (d.drop (p + n1)) with
        | none => rw [e2] at hf; cases hf
        | some z =>
          obtain ⟨t2, n2⟩ := z
          rw [e2] at hf
          simp only at hf ⊢
          rw [show p + (n1 + n2) = p + n1 + n2 from by omega]
          cases e4 : elems (item f) true k false (d.drop (p + n1 + n2)) with
          | none => rw [e4] at hf; cases hf
          | some z4 =>
            obtain ⟨t4, n4⟩ := z4
            rw [e4] at hf
            simp only at hf ⊢
            rw [show p + (n1 + n2 + n4) = p + n1 + (n2 + n4) from by omega]
            cases e3 : after (item f) fs (d.drop (p + n1 + (n2 + n4))) with
            | none => rw [e3] at hf; cases hf
            | some z3 =>
              obtain ⟨t3, n3⟩ := z3
              rw [e3] at hf
              simp only [Option.some.injEq, Prod.mk.injEq] at hf ⊢
              obtain ⟨rfl, rfl⟩ := hf
              exact ⟨by simp, by omega⟩
  obtain ⟨f', t0, n0, e4, e5, e6⟩ := h f _ _ key
  exact ⟨f', t0, n0, e4, by rw [e5]; simp, by omega⟩

theorem GoodA.close {fr : Fr} (h : GoodA d b pos out p (fr :: fs)) (h1 : (fr.isMap && !fr.want) = false) (h2 : fr.left = 1) : GoodA d b pos (out ++ [fr.fin]) p fs := fun f t n ha => by
  have key : after (item f) (fr :: fs) (d.drop p) = some (fr.fin :: t, n) := by
    rw [after]
    unfold frameRest
    simp only [h1, Bool.false_eq_true, if_false, h2, Nat.sub_self, elems, List.nil_append, List.drop_zero, ha]
    simp
  obtain ⟨f', t0, n0, e4, e5, e6⟩ := h f _ _ key
  exact ⟨f', t0, n0, e4, by rw [e5]; simp, by omega⟩

theorem GoodA.done (h : GoodA d b pos out p []) : ∃ f t0 n0, item f (d.drop pos) = some (t0, n0) ∧ out = b ++ t0 ∧ p = pos + n0 := by
  obtain ⟨f', t0, n0, e1, e2, e3⟩ := h 0 [] 0 rfl
  exact ⟨f', t0, n0, e1, by rw [e2]; simp, by omega⟩
end
end Go.Proofs.Qxb6604022aDoor
