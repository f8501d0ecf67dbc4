import Derived.Test.Qxb6602040aDoorParse
namespace Go.Proofs.Qxb6602040aDoor
open Go.RowKit

/-- The state's name is 'waiting' (as the model compares). -/
def isW (st : ByteArray) : Bool := st.toList == [119, 97, 105, 116, 105, 110, 103]
/-- The numbers, commas between. -/
def bjoin : List Int → List UInt8
  | [] => []
  | [x] => Lib.itoa x
  | x :: y :: l => Lib.itoa x ++ 44 :: bjoin (y :: l)
theorem bjoin_snoc : ∀ (l : List Int) (x : Int), l ≠ [] → bjoin (l ++ [x]) = bjoin l ++ 44 :: Lib.itoa x
  | [], _, h => (h rfl).elim
  | [y], x, _ => rfl
  | y :: z :: l, x, _ => by
    show Lib.itoa y ++ 44 :: bjoin (z :: l ++ [x]) = _
    rw [bjoin_snoc (z :: l) x (by simp)]
    simp [bjoin]
theorem itoa_len (x : Int) (h0 : -9223372036854775808 ≤ x) (h1 : x ≤ 9223372036854775807) : (Lib.itoa x).length ≤ 21 := by
  have key : ∀ k u, u < 10 ^ (k + 1) → (Lib.decDigits u).length ≤ k + 1 := by
    intro k
    induction k with
    | zero => intro u h; rw [Lib.decDigits, dif_pos (by simpa using h)]; simp
    | succ k ih =>
      intro u h
      rw [Lib.decDigits]
      split
      · simp
      · have := ih (u / 10) (by rw [Nat.pow_succ] at h; omega)
        simp; omega
  unfold Lib.itoa
  have h20 : (10 : Nat) ^ 20 = 100000000000000000000 := by decide
  split
  · have := key 19 x.natAbs (by rw [h20]; omega)
    simp; omega
  · have := key 19 x.toNat (by rw [h20]; omega)
    omega
theorem bjoin_len : ∀ (l : List Int), (∀ x ∈ l, -9223372036854775808 ≤ x ∧ x ≤ 9223372036854775807) → (bjoin l).length ≤ 22 * l.length
  | [], _ => by simp [bjoin]
  | [x], h => by have := itoa_len x (h x (by simp)).1 (h x (by simp)).2; simp [bjoin]; omega
  | x :: y :: l, h => by
    have h1 := itoa_len x (h x (by simp)).1 (h x (by simp)).2
    have h2 := bjoin_len (y :: l) (fun z hz => h z (by simp at hz ⊢; exact .inr hz))
    simp only [bjoin, List.length_append, List.length_cons] at h2 ⊢
    omega

def head (nm sv st : ByteArray) (tx : Int) : List UInt8 := nm.data.toList ++ 32 :: (sv.data.toList ++ 32 :: (st.data.toList ++ [32, 116, 120, 61] ++ Lib.itoa tx))
theorem head_len (nm sv st : ByteArray) (tx : Int) (t0 : -9223372036854775808 ≤ tx) (t1 : tx ≤ 9223372036854775807) : (head nm sv st tx).length ≤ nm.size + sv.size + st.size + 30 := by
  have q1 : nm.data.toList.length = nm.size := rfl
  have q2 : sv.data.toList.length = sv.size := rfl
  have q3 : st.data.toList.length = st.size := rfl
  have q4 := itoa_len tx t0 t1
  unfold head
  simp only [List.length_append, List.length_cons, List.length_nil]
  omega
def lit12 : List UInt8 := [32, 98, 108, 111, 99, 107, 101, 100, 45, 98, 121, 61]
def tail (bl : List Int) : List UInt8 := lit12 ++ bjoin bl
/-- k numbers written. -/
def ARel (w : World) (hd : List UInt8) (bl : List Int) (bn gk : Nat) (v i : Value) (wr : World) : Prop :=
  ∃ k : Nat, k ≤ bn ∧ i = .int .i64 ((k : Nat) : Int) ∧ Hid (Own w.heap.size wr v (hd ++ (lit12 ++ bjoin (bl.take k)))) ∧ Hid (Kept w.heap.size w wr) ∧ gk = bn - k

/-- The integers that lie there. -/
def Ints (w : World) (b o : Nat) (l : List Int) : Prop := ∀ i (h : i < l.length), w.cell? ⟨b, o + i, none⟩ = some (.int .i64 l[i])
/-- The claim's box. -/
def Box (w : World) (R : Nat) (nm sv st : ByteArray) (tx : Int) (bv : Value) : Prop := w.heap[R]? = some (.cells #[.string nm, .string sv, .string st, .int .i64 tx, bv] 30 (0, 0))
theorem Box.kept {B : Nat} {w w' : World} {R : Nat} {nm sv st : ByteArray} {tx : Int} {bv : Value} (h : Box w R nm sv st tx bv) (hk : Kept B w w') : Box w' R nm sv st tx bv :=
  hk.2 R _ h (by simp) (fun c fz e => by cases e)
theorem Box.c0 {w : World} {R : Nat} {nm sv st : ByteArray} {tx : Int} {bv : Value} (h : Box w R nm sv st tx bv) : w.cell? ⟨R, 0, none⟩ = some (.string nm) := by rw [cell_of_row w R 0 _ _ _ h]; rfl
theorem Box.c1 {w : World} {R : Nat} {nm sv st : ByteArray} {tx : Int} {bv : Value} (h : Box w R nm sv st tx bv) : w.cell? ⟨R, 1, none⟩ = some (.string sv) := by rw [cell_of_row w R 1 _ _ _ h]; rfl
theorem Box.c2 {w : World} {R : Nat} {nm sv st : ByteArray} {tx : Int} {bv : Value} (h : Box w R nm sv st tx bv) : w.cell? ⟨R, 2, none⟩ = some (.string st) := by rw [cell_of_row w R 2 _ _ _ h]; rfl
theorem Box.c3 {w : World} {R : Nat} {nm sv st : ByteArray} {tx : Int} {bv : Value} (h : Box w R nm sv st tx bv) : w.cell? ⟨R, 3, none⟩ = some (.int .i64 tx) := by rw [cell_of_row w R 3 _ _ _ h]; rfl
theorem Box.c4 {w : World} {R : Nat} {nm sv st : ByteArray} {tx : Int} {bv : Value} (h : Box w R nm sv st tx bv) : w.cell? ⟨R, 4, none⟩ = some bv := by rw [cell_of_row w R 4 _ _ _ h]; rfl

set_option maxHeartbeats 2000000 in
theorem append_head (nm sv st : ByteArray) (tx : Int) (ba : Option Addr) (bn bc : Nat) (w : World) (h1 : nm.size ≤ 1048576) (h2 : sv.size ≤ 1048576) (h3 : st.size ≤ 1048576) (t0 : -9223372036854775808 ≤ tx) (t1 : tx ≤ 9223372036854775807)
    (htab : Lib.TabIs Tryd.prog w powName .u64 Lib.pow10Tab) (hst : isW st = false) :
    Calls Tryd.prog 8 #[.agg #[.string nm, .string sv, .string st, .int .i64 tx, .slice ba bn bc], .slice none 0 0] w fun e w' => App w.heap.size w [] (head nm sv st tx) e w' := by
  have HT := hide (Lib.tabBelow_of_tabIs htab)
  clear htab
  have HB0 := hide (show Box (w.alloc (.cells #[.string nm, .string sv, .string st, .int .i64 tx, .slice ba bn bc] 30)) w.heap.size nm sv st tx (.slice ba bn bc) from heap_alloc_new w _)
  have k0 := HB0.out.c0
  have HK0 : Hid (Kept w.heap.size w (w.alloc (.cells #[.string nm, .string sv, .string st, .int .i64 tx, .slice ba bn bc] 30))) := hide ((Kept.refl _ _).alloc (Nat.le_refl _) _)
  have HNM : Hid (nm.data.toList.length = nm.size) := hide rfl
  have HSV : Hid (sv.data.toList.length = sv.size) := hide rfl
  have HST : Hid (st.data.toList.length = st.size) := hide rfl
  have hw : (st.toList == [119, 97, 105, 116, 105, 110, 103]) = false := hst
  clear hst
  go_enter Tryd.func8, Tryd.ntmps8
  go_wp2_with (first
    | (at_builtin; refine wpList_appS rfl (.tmp 7) (.tmp 9) 9 rfl Tryd.underlying9 w.heap.size _ [] rfl (Own.nil _ _) nm rfl (by rw [List.length_nil]; omega) (by simp) ?_; intro v1 w1 ho1 hk1; have HO1 := hide ho1; have HK1 := hide (HK0.out.trans hk1); have HB1 := hide (HB0.out.kept hk1); have s1 := HK1.out.size; clear ho1 hk1)
    | (at_builtin; refine wpList_app rfl (.tmp 11) (.tmp 12) rfl w.heap.size _ ([] ++ nm.data.toList) rfl (HO1.out.alloc _) [32] ⟨_, 0, none⟩ 1 1 rfl rfl (lit_cells _ [32] 5) (by have q1 := HNM.out; have q2 := HSV.out; have q3 := HST.out; simp only [List.length_append, List.length_cons, List.length_nil]; omega) (by simp; omega) ?_; intro v2 w2 ho2 hk2; have HO2 := hide ho2; have HK2 := hide (HK1.out.trans (((Kept.refl _ _).alloc s1 _).trans hk2)); have HB2 := hide (HB1.out.kept (((Kept.refl w.heap.size _).alloc s1 _).trans hk2)); have s2 := HK2.out.size; have k1 := HB2.out.c1; clear ho2 hk2)
    | (at_builtin; refine wpList_appS rfl (.tmp 14) (.tmp 16) 27 rfl Tryd.underlying27 w.heap.size _ ([] ++ nm.data.toList ++ [32]) rfl HO2.out sv rfl (by have q1 := HNM.out; have q2 := HSV.out; have q3 := HST.out; simp only [List.length_append, List.length_cons, List.length_nil]; omega) s2 ?_; intro v3 w3 ho3 hk3; have HO3 := hide ho3; have HK3 := hide (HK2.out.trans hk3); have HB3 := hide (HB2.out.kept hk3); have s3 := HK3.out.size; clear ho3 hk3)
    | (at_builtin; refine wpList_app rfl (.tmp 18) (.tmp 19) rfl w.heap.size _ ([] ++ nm.data.toList ++ [32] ++ sv.data.toList) rfl (HO3.out.alloc _) [32] ⟨_, 0, none⟩ 1 1 rfl rfl (lit_cells _ [32] 5) (by have q1 := HNM.out; have q2 := HSV.out; have q3 := HST.out; simp only [List.length_append, List.length_cons, List.length_nil]; omega) (by simp; omega) ?_; intro v4 w4 ho4 hk4; have HO4 := hide ho4; have HK4 := hide (HK3.out.trans (((Kept.refl _ _).alloc s3 _).trans hk4)); have HB4 := hide (HB3.out.kept (((Kept.refl w.heap.size _).alloc s3 _).trans hk4)); have s4 := HK4.out.size; have k2 := HB4.out.c2; clear ho4 hk4)
    | (at_builtin; refine wpList_appS rfl (.tmp 21) (.tmp 23) 28 rfl Tryd.underlying28 w.heap.size _ ([] ++ nm.data.toList ++ [32] ++ sv.data.toList ++ [32]) rfl HO4.out st rfl (by have q1 := HNM.out; have q2 := HSV.out; have q3 := HST.out; simp only [List.length_append, List.length_cons, List.length_nil]; omega) s4 ?_; intro v5 w5 ho5 hk5; have HO5 := hide ho5; have HK5 := hide (HK4.out.trans hk5); have HB5 := hide (HB4.out.kept hk5); have s5 := HK5.out.size; clear ho5 hk5)
    | (at_builtin; refine wpList_appS rfl (.tmp 25) _ 9 rfl Tryd.underlying9 w.heap.size _ ([] ++ nm.data.toList ++ [32] ++ sv.data.toList ++ [32] ++ st.data.toList) rfl HO5.out ⟨#[32, 116, 120, 61]⟩ rfl (by show _ + 4 ≤ _; have q1 := HNM.out; have q2 := HSV.out; have q3 := HST.out; simp only [List.length_append, List.length_cons, List.length_nil]; omega) s5 ?_; intro v6 w6 ho6 hk6; have HO6 := hide ho6; have HK6 := hide (HK5.out.trans hk6); have HB6 := hide (HB5.out.kept hk6); have s6 := HK6.out.size; have k3 := HB6.out.c3; clear ho6 hk6)
    | (go_at_call 15; refine (appInt_any w.heap.size _ ([] ++ nm.data.toList ++ [32] ++ sv.data.toList ++ [32] ++ st.data.toList ++ (⟨#[32, 116, 120, 61]⟩ : ByteArray).data.toList) tx w6 t0 t1 HO6.out s6 (by have q1 := HNM.out; have q2 := HSV.out; have q3 := HST.out; rw [List.length_append]; show _ + 4 + 21 ≤ _; simp only [List.length_append, List.length_cons, List.length_nil]; omega) (HT.out.on HK6.out.1)).mono ?_; rintro e7 w7 ⟨v7, rfl, ho7, hk7⟩; have HO7 : Hid (Own w.heap.size w7 v7 (head nm sv st tx)) := hide (by simpa [head] using ho7); have HK7 := hide (HK6.out.trans hk7); have HB7 := hide (HB6.out.kept hk7); have s7 := HK7.out.size; have k27 := HB7.out.c2; clear ho7 hk7))
  go_ret
  exact ⟨v7, rfl, HO7.out, HK7.out⟩
set_option maxHeartbeats 2000000 in
theorem append_wait (nm sv st : ByteArray) (tx : Int) (ba : Option Addr) (bn bc : Nat) (bl : List Int) (w : World) (h1 : nm.size ≤ 1048576) (h2 : sv.size ≤ 1048576) (h3 : st.size ≤ 1048576) (t0 : -9223372036854775808 ≤ tx) (t1 : tx ≤ 9223372036854775807)
    (htab : Lib.TabIs Tryd.prog w powName .u64 Lib.pow10Tab) (hst : isW st = true) (hbn : bn = bl.length) (hb0 : bn ≤ 65536) (hbr : ∀ x ∈ bl, -9223372036854775808 ≤ x ∧ x ≤ 9223372036854775807) (hba : bl ≠ [] → ∃ b o, ba = some ⟨b, o, none⟩ ∧ Ints w b o bl) :
    Calls Tryd.prog 8 #[.agg #[.string nm, .string sv, .string st, .int .i64 tx, .slice ba bn bc], .slice none 0 0] w fun e w' => App w.heap.size w [] (head nm sv st tx ++ tail bl) e w' := by
  have HT := hide (Lib.tabBelow_of_tabIs htab)
  clear htab
  have HB0 := hide (show Box (w.alloc (.cells #[.string nm, .string sv, .string st, .int .i64 tx, .slice ba bn bc] 30)) w.heap.size nm sv st tx (.slice ba bn bc) from heap_alloc_new w _)
  have k0 := HB0.out.c0
  have HK0 : Hid (Kept w.heap.size w (w.alloc (.cells #[.string nm, .string sv, .string st, .int .i64 tx, .slice ba bn bc] 30))) := hide ((Kept.refl _ _).alloc (Nat.le_refl _) _)
  have HNM : Hid (nm.data.toList.length = nm.size) := hide rfl
  have HSV : Hid (sv.data.toList.length = sv.size) := hide rfl
  have HST : Hid (st.data.toList.length = st.size) := hide rfl
  have hw : (st.toList == [119, 97, 105, 116, 105, 110, 103]) = true := hst
  have HL := hide (head_len nm sv st tx t0 t1)
  have HBN := hide hbn
  have HBR := hide hbr
  have HBA := hide hba
  clear hst hbn hbr hba
  go_enter Tryd.func8, Tryd.ntmps8
  go_wp2_with (first
    | (at_builtin; refine wpList_appS rfl (.tmp 7) (.tmp 9) 9 rfl Tryd.underlying9 w.heap.size _ [] rfl (Own.nil _ _) nm rfl (by rw [List.length_nil]; omega) (by simp) ?_; intro v1 w1 ho1 hk1; have HO1 := hide ho1; have HK1 := hide (HK0.out.trans hk1); have HB1 := hide (HB0.out.kept hk1); have s1 := HK1.out.size; clear ho1 hk1)
    | (at_builtin; refine wpList_app rfl (.tmp 11) (.tmp 12) rfl w.heap.size _ ([] ++ nm.data.toList) rfl (HO1.out.alloc _) [32] ⟨_, 0, none⟩ 1 1 rfl rfl (lit_cells _ [32] 5) (by have q1 := HNM.out; have q2 := HSV.out; have q3 := HST.out; simp only [List.length_append, List.length_cons, List.length_nil]; omega) (by simp; omega) ?_; intro v2 w2 ho2 hk2; have HO2 := hide ho2; have HK2 := hide (HK1.out.trans (((Kept.refl _ _).alloc s1 _).trans hk2)); have HB2 := hide (HB1.out.kept (((Kept.refl w.heap.size _).alloc s1 _).trans hk2)); have s2 := HK2.out.size; have k1 := HB2.out.c1; clear ho2 hk2)
    | (at_builtin; refine wpList_appS rfl (.tmp 14) (.tmp 16) 27 rfl Tryd.underlying27 w.heap.size _ ([] ++ nm.data.toList ++ [32]) rfl HO2.out sv rfl (by have q1 := HNM.out; have q2 := HSV.out; have q3 := HST.out; simp only [List.length_append, List.length_cons, List.length_nil]; omega) s2 ?_; intro v3 w3 ho3 hk3; have HO3 := hide ho3; have HK3 := hide (HK2.out.trans hk3); have HB3 := hide (HB2.out.kept hk3); have s3 := HK3.out.size; clear ho3 hk3)
    | (at_builtin; refine wpList_app rfl (.tmp 18) (.tmp 19) rfl w.heap.size _ ([] ++ nm.data.toList ++ [32] ++ sv.data.toList) rfl (HO3.out.alloc _) [32] ⟨_, 0, none⟩ 1 1 rfl rfl (lit_cells _ [32] 5) (by have q1 := HNM.out; have q2 := HSV.out; have q3 := HST.out; simp only [List.length_append, List.length_cons, List.length_nil]; omega) (by simp; omega) ?_; intro v4 w4 ho4 hk4; have HO4 := hide ho4; have HK4 := hide (HK3.out.trans (((Kept.refl _ _).alloc s3 _).trans hk4)); have HB4 := hide (HB3.out.kept (((Kept.refl w.heap.size _).alloc s3 _).trans hk4)); have s4 := HK4.out.size; have k2 := HB4.out.c2; clear ho4 hk4)
    | (at_builtin; refine wpList_appS rfl (.tmp 21) (.tmp 23) 28 rfl Tryd.underlying28 w.heap.size _ ([] ++ nm.data.toList ++ [32] ++ sv.data.toList ++ [32]) rfl HO4.out st rfl (by have q1 := HNM.out; have q2 := HSV.out; have q3 := HST.out; simp only [List.length_append, List.length_cons, List.length_nil]; omega) s4 ?_; intro v5 w5 ho5 hk5; have HO5 := hide ho5; have HK5 := hide (HK4.out.trans hk5); have HB5 := hide (HB4.out.kept hk5); have s5 := HK5.out.size; clear ho5 hk5)
    | (at_builtin; refine wpList_appS rfl (.tmp 25) _ 9 rfl Tryd.underlying9 w.heap.size _ ([] ++ nm.data.toList ++ [32] ++ sv.data.toList ++ [32] ++ st.data.toList) rfl HO5.out ⟨#[32, 116, 120, 61]⟩ rfl (by show _ + 4 ≤ _; have q1 := HNM.out; have q2 := HSV.out; have q3 := HST.out; simp only [List.length_append, List.length_cons, List.length_nil]; omega) s5 ?_; intro v6 w6 ho6 hk6; have HO6 := hide ho6; have HK6 := hide (HK5.out.trans hk6); have HB6 := hide (HB5.out.kept hk6); have s6 := HK6.out.size; have k3 := HB6.out.c3; clear ho6 hk6)
    | (go_at_call 15; refine (appInt_any w.heap.size _ ([] ++ nm.data.toList ++ [32] ++ sv.data.toList ++ [32] ++ st.data.toList ++ (⟨#[32, 116, 120, 61]⟩ : ByteArray).data.toList) tx w6 t0 t1 HO6.out s6 (by have q1 := HNM.out; have q2 := HSV.out; have q3 := HST.out; rw [List.length_append]; show _ + 4 + 21 ≤ _; simp only [List.length_append, List.length_cons, List.length_nil]; omega) (HT.out.on HK6.out.1)).mono ?_; rintro e7 w7 ⟨v7, rfl, ho7, hk7⟩; have HO7 : Hid (Own w.heap.size w7 v7 (head nm sv st tx)) := hide (by simpa [head] using ho7); have HK7 := hide (HK6.out.trans hk7); have HB7 := hide (HB6.out.kept hk7); have s7 := HK7.out.size; have k27 := HB7.out.c2; clear ho7 hk7)
    | (at_builtin; refine wpList_appS rfl (.tmp 34) _ 9 rfl Tryd.underlying9 w.heap.size _ (head nm sv st tx) rfl HO7.out ⟨#[32, 98, 108, 111, 99, 107, 101, 100, 45, 98, 121, 61]⟩ rfl (by show _ + 12 ≤ _; have := HL.out; omega) s7 ?_; intro v8 w8 ho8 hk8; have HO8 := hide ho8; have HK8 := hide (HK7.out.trans hk8); have HB8 := hide (HB7.out.kept hk8); have s8 := HK8.out.size; have k4 := HB8.out.c4; clear ho8 hk8))
  have HO9 : Hid (Own w.heap.size w8 v8 (head nm sv st tx ++ (lit12 ++ bjoin (bl.take 0)))) := hide (by simpa [lit12, bjoin] using HO8.out)
  clear HO1 HO2 HO3 HO4 HO5 HO6 HO7 HO8 HB0 HB1 HB2 HB3 HB4 HB5 HB6 HB7 HK0 HK1 HK2 HK3 HK4 HK5 HK6 HK7
  go_loopg [1, 39] bn (fun gk v i wr => ARel w (head nm sv st tx) bl bn gk v i wr)
  case atStart => exact ⟨0, Nat.zero_le _, rfl, HO9, HK8, rfl⟩
  case round =>
    clear HO9 HK8 HB8
    obtain ⟨k, hk, rfl, HO, HK, rfl⟩ := hrel
    have hsz := HK.out.size
    have HBL : Hid ((bjoin (bl.take k)).length ≤ 22 * 65536) := hide (by
      have := bjoin_len (bl.take k) (fun x hx => HBR.out x (List.mem_of_mem_take hx))
      rw [List.length_take] at this
      have := HBN.out
      omega)
    obtain ⟨va, vn, vc, rfl, HVN⟩ := HO.out.shape
    by_cases hlt : k < bn
    · have hkl : k < bl.length := by rw [← HBN.out]; exact hlt
      obtain ⟨b, o, rfl, hints⟩ := HBA.out (by rintro rfl; simp at hkl)
      have c1 := hints k hkl
      have c1' := (HK.out.1.cell (World.block_lt_of_cell? w _ c1)).trans c1
      have hr := HBR.out bl[k] (List.getElem_mem hkl)
      have HTK := hide (List.take_succ_eq_append_getElem hkl)
      obtain ⟨x, ex⟩ : ∃ x, x = bl[k] := ⟨_, rfl⟩
      rw [← ex] at c1' hr HTK
      clear c1 hints ex
      by_cases hk0 : k = 0
      · subst hk0
        rw [Nat.add_zero] at c1'
        have HX : Hid (bjoin (bl.take (0 + 1)) = bjoin (bl.take 0) ++ Lib.itoa x) := hide (by rw [HTK.out]; simp [bjoin])
        go_wp2_with (go_at_call 15; refine (appInt_any w.heap.size _ (head nm sv st tx ++ (lit12 ++ bjoin (bl.take 0))) x wr hr.1 hr.2 HO.out hsz (by have := HL.out; have := HBL.out; simp only [List.length_append]; show _ + (12 + _) + 21 ≤ _; omega) (HT.out.on HK.out.1)).mono ?_; rintro e2 w2 ⟨v2, rfl, ho2, hk2⟩; have HR : Hid (ARel w (head nm sv st tx) bl bn (bn - (0 + 1)) v2 (.int .i64 ((0 + 1 : Nat) : Int)) w2) := hide ⟨0 + 1, by omega, rfl, hide (by rw [HX.out]; simpa using ho2), hide (HK.out.trans hk2), rfl⟩; clear ho2 hk2)
        go_roundg (bn - (0 + 1))
        case rel => exact HR.out
        case measure => omega
      · have HX : Hid (bjoin (bl.take (k + 1)) = bjoin (bl.take k) ++ 44 :: Lib.itoa x) := hide (by rw [HTK.out, bjoin_snoc _ _ (by rw [Ne, List.take_eq_nil_iff]; rintro (h | h); exact hk0 h; rw [h] at hkl; simp at hkl)])
        go_wp2_with (first
          | (at_builtin; refine wpList_app rfl (.tmp 46) (.tmp 47) rfl w.heap.size _ (head nm sv st tx ++ (lit12 ++ bjoin (bl.take k))) rfl (HO.out.alloc _) [44] ⟨_, 0, none⟩ 1 1 rfl rfl (lit_cells _ [44] 5) (by have := HL.out; have := HBL.out; simp only [List.length_append]; show _ + (12 + _) + 1 ≤ _; omega) (by simp; omega) ?_; intro v2 w2 ho2 hk2; have HO2 := hide ho2; have HK2 := hide (HK.out.trans (((Kept.refl _ _).alloc hsz _).trans hk2)); have s2 := HK2.out.size; clear ho2 hk2)
          | (go_at_call 15; refine (appInt_any w.heap.size _ (head nm sv st tx ++ (lit12 ++ bjoin (bl.take k)) ++ [44]) x w2 hr.1 hr.2 HO2.out s2 (by have := HL.out; have := HBL.out; simp only [List.length_append]; show _ + (12 + _) + 1 + 21 ≤ _; omega) (HT.out.on HK2.out.1)).mono ?_; rintro e3 w3 ⟨v3, rfl, ho3, hk3⟩; have HR : Hid (ARel w (head nm sv st tx) bl bn (bn - (k + 1)) v3 (.int .i64 ((k + 1 : Nat) : Int)) w3) := hide ⟨k + 1, by omega, rfl, hide (by rw [HX.out]; simpa using ho3), hide (HK2.out.trans hk3), rfl⟩; clear ho3 hk3))
        go_roundg (bn - (k + 1))
        case rel => exact HR.out
        case measure => omega
    · have HF : Hid (bl.take k = bl) := hide (List.take_of_length_le (by rw [← HBN.out]; omega))
      go_wp2
      go_ret
      refine ⟨_, rfl, ?_, HK.out⟩
      have h := HO.out
      rw [HF.out] at h
      exact h
end Go.Proofs.Qxb6602040aDoor
