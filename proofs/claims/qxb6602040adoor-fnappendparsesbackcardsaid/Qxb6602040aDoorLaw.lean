import Derived.Test.Qxb6602040aDoorFld
namespace Go.Proofs.Qxb6602040aDoor
open Go.RowKit

/-- A slice of integers: nil, or a row. -/
def IRow (w : World) (a : Option Addr) (l : List Int) : Prop := l ≠ [] → ∃ b o, a = some ⟨b, o, none⟩ ∧ Ints w b o l
theorem IRow.below {w w' : World} {a : Option Addr} {l : List Int} (h : IRow w a l) (hb : Below w.heap.size w w') : IRow w' a l := fun h0 => by
  obtain ⟨b, o, e, hi⟩ := h h0
  exact ⟨b, o, e, fun i hi2 => by rw [hb.cell (World.block_lt_of_cell? w _ (hi i hi2))]; exact hi i hi2⟩
theorem clone_c (a : Option Addr) (n c : Nat) (l : List Int) (w : World) (hn : n = l.length) (hn2 : n ≤ 1048576) (h : IRow w a l) :
    Calls Tryd.prog 7 #[.slice a n c] w fun e w' => ∃ a' c', e = .returned (.slice a' n c') ∧ IRow w' a' l ∧ Below w.heap.size w w' := by
  by_cases h0 : l = []
  · subst h0
    have : n = 0 := hn
    subst this
    exact (clone_zero a c w).mono fun e w' ⟨a', c', h1, h2⟩ => ⟨a', c', h1, fun h => (h rfl).elim, h2⟩
  · obtain ⟨b, o, rfl, hi⟩ := h h0
    exact (clone_any b o n c l w hn hn2 hi).mono fun e w' ⟨g, h1, h2, h3⟩ => ⟨_, _, h1, fun _ => ⟨g, 0, rfl, h2⟩, h3⟩

def Tl (st : ByteArray) (bl : List Int) : List UInt8 := if isW st then tail bl else []
/-- What Append gives. -/
def LPost (l : List UInt8) (w : World) (e : Ending) (w' : World) : Prop := ∃ g cap L, e = .returned (.slice (some ⟨g, 0, none⟩) L cap) ∧ Hid (L = l.length) ∧ Hid (Bytes w' g 0 l) ∧ g < w'.heap.size ∧ L ≤ cap ∧ Below w.heap.size w w'
theorem App.line {l : List UInt8} {w : World} {e : Ending} {w' : World} (h : App w.heap.size w [] l e w') (h0 : l ≠ []) : LPost l w e w' := by
  obtain ⟨v, rfl, ho, hk⟩ := h
  rw [List.nil_append] at ho
  rcases ho.2 with ⟨_, e⟩ | ⟨g, cap, cur, rfl, _, hg, hn, _, _, ht⟩
  · exact (h0 (List.eq_nil_of_length_eq_zero e)).elim
  · refine ⟨g, cap, _, rfl, rfl, hide (fun i hi => ?_), (Array.getElem?_eq_some_iff.1 hg).1, hn, hk.1⟩
    rw [Nat.zero_add, cell_of_row w' g i cur 5 (0, 0) hg, ← Array.getElem?_toList]
    have : (cur.toList.take (l.length * 1))[i]? = some (.int .u8 l[i].toNat) := by rw [ht]; simp [Lib.byteCells, hi]
    rwa [List.getElem?_take_of_lt (by omega)] at this
theorem append_c (nm sv st : ByteArray) (tx : Int) (a : Option Addr) (n c : Nat) (bl : List Int) (w : World) (h1 : nm.size ≤ 1048576) (h2 : sv.size ≤ 1048576) (h3 : st.size ≤ 1048576) (h4 : n ≤ 65536) (hn : n = bl.length) (hr : IRow w a bl) (t0 : -9223372036854775808 ≤ tx) (t1 : tx ≤ 9223372036854775807) (hbr : ∀ x ∈ bl, -9223372036854775808 ≤ x ∧ x ≤ 9223372036854775807)
    (htab : Lib.TabIs Tryd.prog w powName .u64 Lib.pow10Tab) :
    Calls Tryd.prog 8 #[.agg #[.string nm, .string sv, .string st, .int .i64 tx, .slice a n c], .slice none 0 0] w fun e w' => LPost (head nm sv st tx ++ Tl st bl) w e w' := by
  have h0 : head nm sv st tx ++ Tl st bl ≠ [] := by simp [head]
  cases hw : isW st with
  | false =>
    refine (append_head nm sv st tx a n c w h1 h2 h3 t0 t1 htab hw).mono fun e w' h => ?_
    have : Tl st bl = [] := by simp [Tl, hw]
    rw [this, List.append_nil] at h0 ⊢
    exact h.line h0
  | true =>
    refine (append_wait nm sv st tx a n c bl w h1 h2 h3 t0 t1 htab hw hn h4 hbr hr).mono fun e w' h => ?_
    have : Tl st bl = tail bl := by simp [Tl, hw]
    rw [this] at h0 ⊢
    exact h.line h0

abbrev bnm (nm : ByteArray) : List UInt8 := nm.data.toList
theorem line0 (nm sv st : ByteArray) (tx : Int) (T : List UInt8) : head nm sv st tx ++ T = [] ++ nm.data.toList ++ (32 :: (sv.data.toList ++ 32 :: (st.data.toList ++ [32, 116, 120, 61] ++ Lib.itoa tx) ++ T)) := by simp [head]
theorem line1 (nm sv st : ByteArray) (tx : Int) (T : List UInt8) : head nm sv st tx ++ T = (nm.data.toList ++ [32]) ++ sv.data.toList ++ (32 :: (st.data.toList ++ [32, 116, 120, 61] ++ Lib.itoa tx ++ T)) := by simp [head]
theorem line2 (nm sv st : ByteArray) (tx : Int) (T : List UInt8) : head nm sv st tx ++ T = (nm.data.toList ++ [32] ++ sv.data.toList ++ [32]) ++ st.data.toList ++ (32 :: ([116, 120, 61] ++ Lib.itoa tx ++ T)) := by simp [head]
theorem line3 (nm sv st : ByteArray) (tx : Int) (T : List UInt8) : head nm sv st tx ++ T = (nm.data.toList ++ [32] ++ sv.data.toList ++ [32] ++ st.data.toList ++ [32]) ++ ([116, 120, 61] ++ Lib.itoa tx) ++ T := by simp [head]
theorem line3' (nm sv st : ByteArray) (tx : Int) (T : List UInt8) : head nm sv st tx ++ T = (nm.data.toList ++ [32] ++ sv.data.toList ++ [32] ++ st.data.toList ++ [32, 116, 120, 61]) ++ Lib.itoa tx ++ T := by simp [head]
theorem line4 (nm sv st : ByteArray) (tx : Int) (J : List UInt8) : head nm sv st tx ++ (lit12 ++ J) = (head nm sv st tx ++ [32]) ++ ([98, 108, 111, 99, 107, 101, 100, 45, 98, 121, 61] ++ J) ++ [] := by simp [lit12]
theorem line4' (nm sv st : ByteArray) (tx : Int) (J : List UInt8) : head nm sv st tx ++ (lit12 ++ J) = (head nm sv st tx ++ lit12) ++ J ++ [] := by simp
theorem head_length (nm sv st : ByteArray) (tx : Int) : (head nm sv st tx).length = nm.size + 1 + sv.size + 1 + st.size + 4 + (Lib.itoa tx).length := by
  have q1 : nm.data.toList.length = nm.size := rfl
  have q2 : sv.data.toList.length = sv.size := rfl
  have q3 : st.data.toList.length = st.size := rfl
  unfold head
  simp only [List.length_append, List.length_cons, List.length_nil]
  omega
theorem Tl_ok (st : ByteArray) (bl : List Int) : Tl st bl = [] ∨ ∃ R', Tl st bl = 32 :: R' := by
  unfold Tl
  split
  · exact .inr ⟨_, rfl⟩
  · exact .inl rfl

/-- The k-th number begins at q. -/
def NumAt (l : List Int) (k q : Nat) : Prop := ∃ A : List UInt8, A.length = q ∧ A ++ bjoin (l.drop k) = bjoin l
theorem num_step (l : List Int) (k q : Nat) (hk : k < l.length) (h : NumAt l k q) : ∃ A R, bjoin l = A ++ Lib.itoa l[k] ++ R ∧ A.length = q ∧ ((k + 1 < l.length ∧ (∃ R', R = 44 :: R') ∧ NumAt l (k + 1) (q + (Lib.itoa l[k]).length + 1)) ∨ (k + 1 = l.length ∧ R = [])) := by
  obtain ⟨A, hA, e⟩ := h
  have hd : l.drop k = l[k] :: l.drop (k + 1) := List.drop_eq_getElem_cons hk
  by_cases h1 : k + 1 < l.length
  · have hd2 : l.drop (k + 1) = l[k + 1] :: l.drop (k + 2) := List.drop_eq_getElem_cons h1
    have e2 : bjoin (l.drop k) = Lib.itoa l[k] ++ 44 :: bjoin (l.drop (k + 1)) := by rw [hd, hd2]; rfl
    refine ⟨A, 44 :: bjoin (l.drop (k + 1)), ?_, hA, .inl ⟨h1, ⟨_, rfl⟩, A ++ Lib.itoa l[k] ++ [44], ?_, ?_⟩⟩
    · rw [← e, e2]; simp
    · simp; omega
    · rw [← e, e2]; simp
  · have hd2 : l.drop (k + 1) = [] := List.drop_eq_nil_of_le (by omega)
    have e2 : bjoin (l.drop k) = Lib.itoa l[k] := by rw [hd, hd2]; rfl
    exact ⟨A, [], by rw [← e, e2]; simp, hA, .inr ⟨by omega, rfl⟩⟩
/-- k numbers have been read. -/
def ORel (bl : List Int) (n M : Nat) (w0 : World) (gk : Nat) (kv qv : Value) (wr : World) : Prop :=
  ∃ k q : Nat, kv = .int .i64 k ∧ qv = .int .i64 q ∧ Hid ((k < n ∧ NumAt bl k q) ∨ (k = n ∧ q = M + 1)) ∧ w0 = wr ∧ gk = n - k
def JRel (q e : Nat) (w0 : World) (gk : Nat) (jv : Value) (wr : World) : Prop := ∃ j : Nat, jv = .int .i64 j ∧ q ≤ j ∧ j ≤ e ∧ w0 = wr ∧ gk = e - j

theorem belowTr {w w' w'' : World} (h : Below w.heap.size w w') (hb : Below w'.heap.size w' w'') : Below w.heap.size w w'' :=
  h.trans ⟨hb.os, hb.tape, hb.output, hb.size, fun k hk => hb.block k (by have := h.size; omega)⟩
theorem Bytes.midAt {w : World} {g p : Nat} {l A F R : List UInt8} (h : Bytes w g 0 l) (hl : l = A ++ F ++ R) (hp : p = A.length) : Bytes w g p F := by
  subst hl hp
  have := h.mid
  rwa [Nat.zero_add] at this

set_option maxHeartbeats 4000000 in
set_option maxRecDepth 20000 in
theorem law_in (nm sv st : ByteArray) (tx : Int) (a : Option Addr) (n c : Nat) (bl : List Int) (w : World) (h1 : nm.size ≤ 1048576) (h2 : sv.size ≤ 1048576) (h3 : st.size ≤ 1048576) (h4 : n ≤ 65536) (h5 : nm.size + sv.size + st.size + 8 * n ≤ 1048576) (hn : n = bl.length) (hr : IRow w a bl) (t0 : -9223372036854775808 ≤ tx) (t1 : tx ≤ 9223372036854775807) (hbr : ∀ x ∈ bl, -9223372036854775808 ≤ x ∧ x ≤ 9223372036854775807)
    (htab : Lib.TabIs Tryd.prog w powName .u64 Lib.pow10Tab) :
    Calls Tryd.prog 4 #[.string nm, .string sv, .string st, .int .i64 tx, .slice a n c] w fun e w' => e = .returned (.bool true) ∧ Below w.heap.size w w' := by
  have HN := hide hn
  have HR := hide hr
  have HBR := hide hbr
  have HT := hide htab
  clear hn hr hbr htab
  have HZ := hide (size_any nm sv st tx a n c w (by unfold maxLen; omega) (by unfold maxLen; omega) (by unfold maxLen; omega) (by unfold maxLen; omega))
  have S1 := hide (hasSpace_any nm w (by unfold maxLen; omega))
  have S2 := hide (hasSpace_any sv w (by unfold maxLen; omega))
  have S3 := hide (hasSpace_any st w (by unfold maxLen; omega))
  go_enter Tryd.func4, Tryd.ntmps4
  go_wp2_with fail
  go_at_call 9
  refine HZ.out.mono ?_
  rintro e w' ⟨r, rfl, hw'⟩
  replace hw' := hw'.symm
  subst hw'
  cases r with
  | false =>
    go_wp2
    go_ret
    exact ⟨rfl, Below.refl _ _⟩
  | true =>
    go_wp2_with fail
    go_at_call 10
    refine S1.out.mono ?_
    rintro e w' ⟨r1, rfl, hw', hs1⟩
    replace hw' := hw'.symm
    subst hw'
    cases r1 with
    | true =>
      go_wp2
      go_ret
      exact ⟨rfl, Below.refl _ _⟩
    | false =>
      have HS1 := hide (hs1 rfl)
      clear hs1
      go_wp2_with fail
      go_at_call 10
      refine S2.out.mono ?_
      rintro e w' ⟨r2, rfl, hw', hs2⟩
      replace hw' := hw'.symm
      subst hw'
      cases r2 with
      | true =>
        go_wp2
        go_ret
        exact ⟨rfl, Below.refl _ _⟩
      | false =>
        have HS2 := hide (hs2 rfl)
        clear hs2
        go_wp2_with fail
        go_at_call 10
        refine S3.out.mono ?_
        rintro e w' ⟨r3, rfl, hw', hs3⟩
        replace hw' := hw'.symm
        subst hw'
        cases r3 with
        | true =>
          go_wp2
          go_ret
          exact ⟨rfl, Below.refl _ _⟩
        | false =>
          have HS3 := hide (hs3 rfl)
          clear hs3 S1 S2 S3 HZ
          go_wp2_with fail
          go_at_call 7
          refine (clone_c a n c bl w HN.out (by omega) HR.out).mono ?_
          rintro e w1 ⟨a1, c1, rfl, hr1, hb1⟩
          have HR1 := hide hr1
          have HB1 := hide hb1
          clear hr1 hb1
          go_wp2_with fail
          go_at_call 8
          have hba : Below w.heap.size w (w1.alloc (.cells #[.string nm, .string sv, .string st, .int .i64 tx, .slice a1 n c1] 30)) := HB1.out.alloc HB1.out.size _
          have hr2 : IRow (w1.alloc (.cells #[.string nm, .string sv, .string st, .int .i64 tx, .slice a1 n c1] 30)) a1 bl := HR1.out.below ((Below.refl _ _).alloc (Nat.le_refl _) _)
          refine (append_c nm sv st tx a1 n c1 bl _ h1 h2 h3 h4 HN.out hr2 t0 t1 HBR.out ((Lib.tabBelow_of_tabIs HT.out).on hba).here).mono ?_
          rintro e w2 ⟨g, cap, L, rfl, HL, HBY, hg, hLc, hb2⟩
          have HB2 := hide (hba.trans ⟨hb2.os, hb2.tape, hb2.output, hb2.size, fun k hk => hb2.block k (by have := hba.size; omega)⟩)
          have HR2 := hide (hr2.below hb2)
          clear hb2 hr2 hba HR1
          have hX0 := itoa_pos tx
          have hX1 := itoa_len tx t0 t1
          have HLH := hide (head_length nm sv st tx)
          have hLL : L = nm.size + 1 + sv.size + 1 + st.size + 4 + (Lib.itoa tx).length + (Tl st bl).length := by rw [HL.out, List.length_append, HLH.out]
          have hTL : (Tl st bl).length ≤ 22 * 65536 + 12 := by
            unfold Tl
            split
            · have := bjoin_len bl HBR.out
              have := HN.out
              unfold tail
              rw [List.length_append]
              show 12 + _ ≤ _
              omega
            · simp
          obtain ⟨X, eX⟩ : ∃ X, X = (Lib.itoa tx).length := ⟨_, rfl⟩
          obtain ⟨T, eT⟩ : ∃ T, T = (Tl st bl).length := ⟨_, rfl⟩
          rw [← eX] at hX0 hX1 hLL HLH
          rw [← eT] at hLL hTL
          have HX := hide eX
          have HTl := hide eT
          clear eX eT
          have HLL := hide hLL
          have hLm : L ≤ 140737488355328 := by omega
          have b0 : nm.size < L := by omega
          have b1 : nm.size + 1 + sv.size < L := by omega
          have b2 : nm.size + 1 + sv.size + 1 + st.size < L := by omega
          have b3 : nm.size + 1 + sv.size + 1 + st.size + 1 + (3 + X) ≤ L := by omega
          clear hLL
          go_wp2_with fail
          go_at_call 11
          refine (fe_call g cap L 0 nm.size (head nm sv st tx ++ Tl st bl) [] nm.data.toList _ w2 (line0 nm sv st tx _) HS1.out (.inr ⟨_, rfl⟩) HL.out hLm rfl (by simp) HBY.out).mono ?_
          rintro e w' ⟨rfl, hw'⟩
          replace hw' := hw'.symm
          subst hw'
          have hb0 := HBY.out
          rw [line0] at hb0
          have hb0' := hb0.mid
          clear hb0
          have q0 : ¬ cap = 0 := by omega
          go_wp2_with fail
          go_at_call 12
          refine (isStr_some g 0 nm.size cap nm w2 rfl (by omega) hb0').mono ?_
          rintro e w3 ⟨rfl, hb3⟩
          clear hb0'
          have HBY3 := hide (HBY.out.below hb3 hg)
          have HR3 := hide (HR2.out.below hb3)
          have hg3 := Nat.lt_of_lt_of_le hg hb3.size
          have HB3 := hide (belowTr HB2.out hb3)
          clear HBY HR2 HB2 hg hb3
          go_wp2_with fail
          go_at_call 11
          obtain ⟨p1, hp1⟩ : ∃ p1 : Nat, p1 = nm.size + 1 := ⟨_, rfl⟩
          rw [show ((nm.size : Int) + 1) = ((p1 : Nat) : Int) from by omega]
          obtain ⟨e1, he1⟩ : ∃ e1 : Nat, e1 = p1 + sv.size := ⟨_, rfl⟩
          refine (fe_call g cap L p1 e1 (head nm sv st tx ++ Tl st bl) _ sv.data.toList _ w3 (line1 nm sv st tx _) HS2.out (.inr ⟨_, rfl⟩) HL.out hLm (by rw [hp1, List.length_append]; rfl) (by rw [he1, hp1, List.length_append]; rfl) HBY3.out).mono ?_
          rintro e w' ⟨rfl, hw'⟩
          replace hw' := hw'.symm
          subst hw'
          have hb0' : Bytes w3 g p1 sv.data.toList := HBY3.out.midAt (line1 nm sv st tx _) (by rw [hp1, List.length_append]; rfl)
          have HP1 := hide hp1
          have HE1 := hide he1
          have x1 : p1 ≤ e1 := by omega
          have x2 : e1 < L := by omega
          have x3 : ¬ cap = p1 := by omega
          clear hp1 he1
          go_wp2_with fail
          go_at_call 12
          refine (isStr_some g p1 (e1 - p1) (cap - p1) sv w3 (by have := HE1.out; omega) (by omega) hb0').mono ?_
          rintro e w4 ⟨rfl, hb4⟩
          clear hb0'
          have HBY4 := hide (HBY3.out.below hb4 hg3)
          have HR4 := hide (HR3.out.below hb4)
          have hg4 := Nat.lt_of_lt_of_le hg3 hb4.size
          have HB4 := hide (belowTr HB3.out hb4)
          clear HBY3 HR3 HB3 hg3 hb4
          go_wp2_with fail
          go_at_call 11
          obtain ⟨p2, hp2⟩ : ∃ p2 : Nat, p2 = e1 + 1 := ⟨_, rfl⟩
          rw [show ((e1 : Int) + 1) = ((p2 : Nat) : Int) from by omega]
          obtain ⟨e2, he2⟩ : ∃ e2 : Nat, e2 = p2 + st.size := ⟨_, rfl⟩
          have HP2 : Hid (p2 = (nm.data.toList ++ [32] ++ sv.data.toList ++ [32]).length) := hide (by
            rw [hp2, HE1.out, HP1.out]; simp only [List.length_append]; rfl)
          refine (fe_call g cap L p2 e2 (head nm sv st tx ++ Tl st bl) _ st.data.toList _ w4 (line2 nm sv st tx _) HS3.out (.inr ⟨_, rfl⟩) HL.out hLm HP2.out (by rw [he2, HP2.out]; rfl) HBY4.out).mono ?_
          rintro e w' ⟨rfl, hw'⟩
          replace hw' := hw'.symm
          subst hw'
          have hb0' : Bytes w4 g p2 st.data.toList := HBY4.out.midAt (line2 nm sv st tx _) HP2.out
          have HE2 := hide he2
          have y1 : p2 ≤ e2 := by omega
          have y2 : e2 < L := by have := HE1.out; have := HP1.out; omega
          have y3 : ¬ cap = p2 := by omega
          have HQ2 := hide hp2
          clear hp2 he2
          go_wp2_with fail
          go_at_call 12
          refine (isStr_some g p2 (e2 - p2) (cap - p2) st w4 (by have := HE2.out; omega) (by omega) hb0').mono ?_
          rintro e w5 ⟨rfl, hb5⟩
          clear hb0'
          have HBY5 := hide (HBY4.out.below hb5 hg4)
          have HR5 := hide (HR4.out.below hb5)
          have hg5 := Nat.lt_of_lt_of_le hg4 hb5.size
          have HB5 := hide (belowTr HB4.out hb5)
          clear HBY4 HR4 HB4 hg4 hb5
          go_wp2_with fail
          go_at_call 11
          obtain ⟨p3, hp3⟩ : ∃ p3 : Nat, p3 = e2 + 1 := ⟨_, rfl⟩
          rw [show ((e2 : Int) + 1) = ((p3 : Nat) : Int) from by omega]
          obtain ⟨e3, he3⟩ : ∃ e3 : Nat, e3 = p3 + (3 + X) := ⟨_, rfl⟩
          have HP3 : Hid (p3 = (nm.data.toList ++ [32] ++ sv.data.toList ++ [32] ++ st.data.toList ++ [32]).length) := hide (by
            have := HP2.out
            rw [hp3, HE2.out, HP2.out]; simp only [List.length_append]; rfl)
          have HE3 : Hid (e3 = p3 + ([116, 120, 61] ++ Lib.itoa tx).length) := hide (by rw [he3, List.length_append, HX.out]; rfl)
          have hF3 : ∀ b ∈ [116, 120, 61] ++ Lib.itoa tx, b ≠ 32 := by
            intro b hb
            rcases List.mem_append.1 hb with hb | hb
            · rintro rfl; revert hb; decide
            · exact (itoa_plain tx b hb).1
          refine (fe_call g cap L p3 e3 (head nm sv st tx ++ Tl st bl) _ ([116, 120, 61] ++ Lib.itoa tx) _ w5 (line3 nm sv st tx _) hF3 (Tl_ok st bl) HL.out hLm HP3.out (by rw [HE3.out, HP3.out]) HBY5.out).mono ?_
          rintro e w' ⟨rfl, hw'⟩
          replace hw' := hw'.symm
          subst hw'
          clear hF3
          have hb0' : Bytes w5 g p3 ([116, 120, 61] ++ Lib.itoa tx) := HBY5.out.midAt (line3 nm sv st tx _) HP3.out
          have z1 : p3 + 3 < e3 := by omega
          have z0 : e3 = L - T := by have := HE1.out; have := HP1.out; have := HE2.out; have := HQ2.out; have := HLL.out; omega
          have z4 : T ≤ L := by have := HLL.out; omega
          have Z0 := hide z0
          have Z4 := hide z4
          have z2 : e3 ≤ L := by omega
          have z3 : ¬ cap = p3 := by omega
          have HQ3 := hide hp3
          have HR3 := hide he3
          clear hp3 he3 z0 z4
          go_wp2_with fail
          go_at_call 13
          refine (hasPrefix_any g p3 (e3 - p3) (cap - p3) ⟨#[116, 120, 61]⟩ (Lib.itoa tx) w5 (by show _ = 3 + _; rw [← HX.out]; have := HR3.out; omega) (by omega) (by omega) (by decide) hb0').mono ?_
          rintro e w6 ⟨rfl, hb6⟩
          clear hb0'
          have HBY6 := hide (HBY5.out.below hb6 hg5)
          have HR6 := hide (HR5.out.below hb6)
          have hg6 := Nat.lt_of_lt_of_le hg5 hb6.size
          have HB6 := hide (belowTr HB5.out hb6)
          clear HBY5 HR5 HB5 hg5 hb6
          have z5 : ¬ cap = p3 + 3 := by omega
          go_wp2_with fail
          go_at_call 14
          have hb0' : Bytes w6 g (p3 + 3) (Lib.itoa tx) := HBY6.out.midAt (line3' nm sv st tx _) (by rw [HP3.out]; simp only [List.length_append]; rfl)
          refine (parse_any g (p3 + 3) (e3 - (p3 + 3)) (cap - (p3 + 3)) tx w6 (by rw [← HX.out]; have := HR3.out; omega) (by omega) t0 t1 hb0').mono ?_
          rintro e w' ⟨rfl, hw'⟩
          replace hw' := hw'.symm
          subst hw'
          clear hb0'
          cases hst : isW st with
          | false =>
            have hw : (st.toList == [119, 97, 105, 116, 105, 110, 103]) = false := hst
            have hT0 : T = 0 := by rw [HTl.out]; simp [Tl, hst]
            clear hst
            have hee : e3 = L := by have := Z0.out; omega
            clear hT0
            subst hee
            go_wp2
            go_ret
            exact ⟨rfl, HB6.out⟩
          | true =>
            have hw : (st.toList == [119, 97, 105, 116, 105, 110, 103]) = true := hst
            have HTE : Hid (Tl st bl = lit12 ++ bjoin bl) := hide (by simp [Tl, hst, tail])
            clear hst
            obtain ⟨M, eM⟩ : ∃ M : Nat, M = (bjoin bl).length := ⟨_, rfl⟩
            have hT0 : T = 12 + M := by rw [HTl.out, HTE.out, List.length_append, eM]; rfl
            have HM := hide eM
            clear eM
            have v0 : e3 + 12 + M = L := by have := Z0.out; have := Z4.out; omega
            have V0 := hide v0
            have v1 : e3 < L := by omega
            clear hT0 v0
            go_wp2_with fail
            go_at_call 11
            have HHL : Hid (e3 = (head nm sv st tx).length) := hide (by rw [HLH.out]; have := HLL.out; have := Z0.out; omega)
            have HBY7 := hide (by have := HBY6.out; rw [HTE.out] at this; exact this)
            have HL7 := hide (by have := HL.out; rw [HTE.out] at this; exact this)
            clear HBY6
            obtain ⟨p4, hp4⟩ : ∃ p4 : Nat, p4 = e3 + 1 := ⟨_, rfl⟩
            rw [show ((e3 : Int) + 1) = ((p4 : Nat) : Int) from by omega]
            have HP4 : Hid (p4 = (head nm sv st tx ++ [32]).length) := hide (by rw [hp4, HHL.out, List.length_append]; rfl)
            have hF4 : ∀ b ∈ [98, 108, 111, 99, 107, 101, 100, 45, 98, 121, 61] ++ bjoin bl, b ≠ 32 := by
              intro b hb
              rcases List.mem_append.1 hb with hb | hb
              · rintro rfl; revert hb; decide
              · exact bjoin_plain bl b hb
            refine (fe_call g cap L p4 L (head nm sv st tx ++ (lit12 ++ bjoin bl)) _ ([98, 108, 111, 99, 107, 101, 100, 45, 98, 121, 61] ++ bjoin bl) _ w6 (line4 nm sv st tx _) hF4 (.inl rfl) HL7.out hLm HP4.out (by rw [← HP4.out, List.length_append, ← HM.out]; have := V0.out; show L = p4 + (11 + M); omega) HBY7.out).mono ?_
            rintro e w' ⟨rfl, hw'⟩
            replace hw' := hw'.symm
            subst hw'
            clear hF4
            have hb0' : Bytes w6 g p4 ([98, 108, 111, 99, 107, 101, 100, 45, 98, 121, 61] ++ bjoin bl) := HBY7.out.midAt (line4 nm sv st tx _) HP4.out
            have u1 : p4 + 11 + M = L := by have := V0.out; omega
            have U1 := hide u1
            have u2 : p4 + 11 ≤ L := by omega
            have u3 : ¬ cap = p4 := by omega
            have HQ4 := hide hp4
            clear hp4 u1
            go_wp2_with fail
            go_at_call 13
            refine (hasPrefix_any g p4 (L - p4) (cap - p4) ⟨#[98, 108, 111, 99, 107, 101, 100, 45, 98, 121, 61]⟩ (bjoin bl) w6 (by show _ = 11 + _; rw [← HM.out]; have := U1.out; omega) (by omega) (by omega) (by decide) hb0').mono ?_
            rintro e w7 ⟨rfl, hb7⟩
            clear hb0'
            have HBY8 := hide (HBY7.out.below hb7 hg6)
            have HR7 := hide (HR6.out.below hb7)
            have HB7 := hide (belowTr HB6.out hb7)
            clear HBY7 HR6 HB6 hg6 hb7
            by_cases hbl : bl = []
            · have hM0 : M = 0 := by rw [HM.out, hbl]; rfl
              have hn0 : n = 0 := by rw [HN.out, hbl]; rfl
              have hp : L = p4 + 11 := by have := U1.out; omega
              clear hM0
              subst hn0
              have hz : ((L - (p4 + 11) : Nat) : Int) = 0 := by omega
              have HZ := hide hp
              by_cases hc : cap = p4 + 11
              · clear hp
                go_wp2
                go_ret
                exact ⟨rfl, HB7.out⟩
              · clear hp
                go_wp2
                go_ret
                exact ⟨rfl, HB7.out⟩
            · have hM1 : 1 ≤ M := by
                have h0 : 0 < bl.length := by cases bl with | nil => exact (hbl rfl).elim | cons => simp
                obtain ⟨A, R, e, _⟩ := num_step bl 0 0 h0 ⟨[], rfl, rfl⟩
                have := itoa_pos bl[0]
                rw [HM.out, e]; simp; omega
              have u4 : ¬ cap = p4 + 11 := by have := U1.out; omega
              have hz : (((L - (p4 + 11) : Nat) : Int) == 0) = false := by have := U1.out; simp; omega
              go_wp2_with fail
              obtain ⟨P, hP⟩ : ∃ P, P = p4 + 11 := ⟨_, rfl⟩
              rw [← hP]
              rw [show L - P = M from by have := U1.out; omega]
              obtain ⟨C, hC⟩ : ∃ C, C = cap - P := ⟨_, rfl⟩
              rw [← hC]
              have HP := hide hP
              have HC := hide hC
              have HJB : Hid (Bytes w7 g P (bjoin bl)) := hide (HBY8.out.midAt (line4' nm sv st tx _) (by rw [hP, HQ4.out, HHL.out, List.length_append]; rfl))
              have hMm : M ≤ 140737488355328 := by have := U1.out; omega
              have hMC : M ≤ C := by have := U1.out; omega
              have hn1 : 0 < n := by rw [HN.out]; cases bl with | nil => exact (hbl rfl).elim | cons => simp
              clear hP hC u4 hz HBY8 u3 u2 v1 z5 z3 z2 z1 y1 y2 y3 x1 x2 x3 q0 b0 b1 b2 b3 hLm hX0 hX1 hTL hLc
              obtain ⟨b, o, ha1, hi⟩ := HR7.out hbl
              subst ha1
              have HI := hide hi
              clear hi HR7
              go_loopg [18, 19] n (fun gk kv qv wr => ORel bl n M w7 gk kv qv wr)
              case atStart => exact ⟨0, 0, rfl, rfl, hide (.inl ⟨hn1, [], rfl, rfl⟩), rfl, rfl⟩
              case round =>
                obtain ⟨k, q, rfl, rfl, H, rfl, rfl⟩ := hrel
                by_cases hkn : k < n
                · have hkl : k < bl.length := by rw [← HN.out]; exact hkn
                  have hNA : NumAt bl k q := by rcases H.out with h | h; exact h.2; omega
                  obtain ⟨A, R, c1, c2, c3⟩ := num_step bl k q hkl hNA
                  clear H hNA
                  have cI := HI.out k hkl
                  have hx := HBR.out bl[k] (List.getElem_mem hkl)
                  have hpl := itoa_plain bl[k]
                  have hps := itoa_pos bl[k]
                  have HPB : Hid (Bytes w7 g (P + q) (Lib.itoa bl[k])) := hide (by have h := HJB.out; rw [c1] at h; have h2 := h.mid; rwa [c2] at h2)
                  obtain ⟨x, ex⟩ : ∃ x, x = bl[k] := ⟨_, rfl⟩
                  rw [← ex] at cI hx hpl hps HPB c1 c3
                  clear ex
                  obtain ⟨hx0, hx1⟩ := hx
                  obtain ⟨y, ey⟩ : ∃ y, y = (Lib.itoa x).length := ⟨_, rfl⟩
                  obtain ⟨e, ee⟩ : ∃ e, e = q + y := ⟨_, rfl⟩
                  have hM2 : M = q + y + R.length := by rw [HM.out, c1, List.length_append, List.length_append, c2, ey]
                  rw [← ey] at hps c3
                  rw [← ee] at c3
                  have he1 : q < e := by omega
                  have he2 : e ≤ M := by omega
                  have HNS : Hid (∀ j (h : j < (bjoin bl).length), q ≤ j → j < e → (bjoin bl)[j] ≠ 44) := hide (by
                    intro j h j1 j2
                    have : (bjoin bl)[j] = (Lib.itoa x)[j - q]'(by omega) := by
                      simp only [c1]
                      rw [List.getElem_append_left (by simp; omega), List.getElem_append_right (by omega)]
                      simp only [c2]
                    rw [this]
                    exact (hpl _ (List.getElem_mem _)).2)
                  have HEN : Hid (∀ h : e < (bjoin bl).length, (bjoin bl)[e] = 44) := hide (by
                    intro h
                    rcases c3 with ⟨_, ⟨R', hR⟩, _⟩ | ⟨_, hR⟩
                    · subst hR
                      simp only [c1]
                      rw [List.getElem_append_right (by simp; omega)]
                      simp [c2, ← ey, ← ee]
                    · subst hR
                      have := HM.out
                      simp at hM2
                      omega)
                  have HNX : Hid ((k + 1 < n ∧ NumAt bl (k + 1) (e + 1)) ∨ (k + 1 = n ∧ e + 1 = M + 1)) := hide (by
                    have := HN.out
                    rcases c3 with ⟨g1, _, g2⟩ | ⟨g1, hR⟩
                    · exact .inl ⟨by omega, g2⟩
                    · subst hR
                      simp at hM2
                      exact .inr ⟨by omega, by omega⟩)
                  have HEY : Hid (e - q = (Lib.itoa x).length) := hide (by omega)
                  clear c1 c2 c3 hM2 hpl hps ey ee hkl
                  go_wp2_with fail
                  go_loopg [20] (e - q) (fun gk jv wr => JRel q e w7 gk jv wr)
                  case atStart => exact ⟨q, rfl, Nat.le_refl _, by omega, rfl, rfl⟩
                  case round =>
                    obtain ⟨j, rfl, hj1, hj2, rfl, rfl⟩ := hrel
                    by_cases hlt : j < e
                    · have hjl : j < (bjoin bl).length := by rw [← HM.out]; omega
                      have hjM : j < M := by omega
                      have ck := HJB.out j hjl
                      have hc : ¬ (bjoin bl)[j].toNat = 44 := fun h => HNS.out j hjl hj1 hlt (UInt8.toNat_inj.1 (by rw [h]; rfl))
                      obtain ⟨z, ez⟩ : ∃ z, z = (bjoin bl)[j].toNat := ⟨_, rfl⟩
                      rw [← ez] at ck hc
                      clear ez
                      go_wp2
                      go_roundg (e - (j + 1))
                      case rel => exact ⟨j + 1, by go_num, by omega, by omega, rfl, rfl⟩
                      case measure => omega
                    · have hje : j = e := by omega
                      subst hje
                      have hqC : ¬ C = q := by omega
                      by_cases hjM : j < M
                      · have hjl : j < (bjoin bl).length := by rw [← HM.out]; exact hjM
                        have ck := HJB.out j hjl
                        rw [HEN.out hjl] at ck
                        have ck' : w7.cell? ⟨g, P + j, none⟩ = some (.int .u8 44) := ck
                        clear ck hlt
                        go_wp2_with fail
                        go_at_call 14
                        refine (parse_any g (P + q) (j - q) (C - q) x w7 HEY.out (by omega) hx0 hx1 HPB.out).mono ?_
                        rintro e w' ⟨rfl, hw'⟩
                        replace hw' := hw'.symm
                        subst hw'
                        go_wp2
                        go_roundg (n - (k + 1))
                        case rel => exact ⟨k + 1, j + 1, by go_num, by go_num, HNX, rfl, rfl⟩
                        case measure => omega
                      · clear hlt
                        go_wp2_with fail
                        go_at_call 14
                        refine (parse_any g (P + q) (j - q) (C - q) x w7 HEY.out (by omega) hx0 hx1 HPB.out).mono ?_
                        rintro e w' ⟨rfl, hw'⟩
                        replace hw' := hw'.symm
                        subst hw'
                        go_wp2
                        go_roundg (n - (k + 1))
                        case rel => exact ⟨k + 1, j + 1, by go_num, by go_num, HNX, rfl, rfl⟩
                        case measure => omega
                · obtain ⟨hk1, hq1⟩ : k = n ∧ q = M + 1 := by rcases H.out with h | h; omega; exact h
                  clear H hkn
                  subst hk1
                  have hq2 : M < q := by omega
                  clear hq1
                  go_wp2
                  go_ret
                  exact ⟨rfl, HB7.out⟩
end Go.Proofs.Qxb6602040aDoor
