import Derived.Test.Qxb6604022aDoorRd
namespace Go.Proofs.Qxb6604022aDoor
open Go.RowKit

/-- THE READER's CONTRACT, for items of at most f levels. -/
def RdSpec (f B R bd off cap : Nat) (d : List UInt8) : Prop :=
  ∀ (p : Nat) (v : Value) (bs : List UInt8) (w : World) (t : List UInt8) (n : Nat), item f (d.drop p) = some (t, n) → Own B w v bs → Rd w R (.slice (some ⟨bd, off, none⟩) d.length cap) p → Bytes w bd off d → B ≤ w.heap.size →
    bs.length + 24 * (d.length - p) + 60 ≤ 140737488355328 → Lib.TabBelow Tryd.prog B w powName .u64 Lib.pow10Tab →
    Calls Tryd.prog 13 #[.pointer (some ⟨R, 0, none⟩), v] w fun e w' => RApp B R (.slice (some ⟨bd, off, none⟩) d.length cap) w bs t (p + n) e w'

/-- The loop's state in appendElements: nk bytes read, tk written. -/
structure ElSt (f B R bd off cap : Nat) (d : List UInt8) (mem : Bool) (p cnt : Nat) (op : UInt8) (bs t : List UInt8) (n : Nat) (w : World) (k : Nat) (v : Value) (wr : World) (tk : List UInt8) (nk : Nat) (t' : List UInt8) (n' : Nat) : Prop where
  own : Own B wr v (bs ++ op :: tk)
  rd : Rd wr R (.slice (some ⟨bd, off, none⟩) d.length cap) (p + nk)
  rest : elems (item f) mem (cnt - k) (decide (k = 0)) (d.drop (p + nk)) = some (t', n')
  text : t = tk ++ t'
  num : n = nk + n'
  len : tk.length ≤ 24 * nk
  le : p + nk ≤ d.length
  kept : KeptR B R w wr

theorem elems_step {g : List UInt8 → Option (List UInt8 × Nat)} {mem : Bool} {j : Nat} {fst : Bool} {l t : List UInt8} {n : Nat} (h : elems g mem (j + 1) fst l = some (t, n)) :
    ∃ t1 n1 t2 n2 t3 n3, g l = some (t1, n1) ∧ (if mem then ∃ u, g (l.drop n1) = some (u, n2) ∧ t2 = 58 :: u else t2 = [] ∧ n2 = 0) ∧ elems g mem j false (l.drop (n1 + n2)) = some (t3, n3) ∧ t = (if fst then [] else [44]) ++ t1 ++ t2 ++ t3 ∧ n = n1 + n2 + n3 := by
  rw [elems] at h
  cases h1 : g l with
  | none => rw [h1] at h; cases h
  | some y =>
    obtain ⟨t1, n1⟩ := y
    rw [h1] at h
    cases mem with
    | false =>
      simp only [Bool.false_eq_true, if_false, Nat.add_zero, List.append_nil] at h ⊢
      cases h3 : elems g false j false (l.drop n1) with
      | none => rw [h3] at h; cases h
      | some z =>
        obtain ⟨t3, n3⟩ := z
        rw [h3] at h
        simp only [Option.some.injEq, Prod.mk.injEq] at h
        obtain ⟨rfl, rfl⟩ := h
        exact ⟨t1, n1, [], 0, t3, n3, rfl, ⟨rfl, rfl⟩, h3, by simp, by omega⟩
    | true =>
      simp only [if_true] at h ⊢
      cases h2 : g (l.drop n1) with
      | none => rw [h2] at h; cases h
      | some y2 =>
        obtain ⟨t2, n2⟩ := y2
        rw [h2] at h
        simp only at h
        cases h3 : elems g true j false (l.drop (n1 + n2)) with
        | none => rw [h3] at h; cases h
        | some z =>
          obtain ⟨t3, n3⟩ := z
          rw [h3] at h
          simp only [Option.some.injEq, Prod.mk.injEq] at h
          obtain ⟨rfl, rfl⟩ := h
          exact ⟨t1, n1, 58 :: t2, n2, t3, n3, rfl, ⟨t2, h2, rfl⟩, h3, by simp, rfl⟩


theorem ElSt.next {f B R bd off cap : Nat} {d : List UInt8} {mem : Bool} {p cnt : Nat} {op : UInt8} {bs t : List UInt8} {n : Nat} {w : World} {k : Nat} {v : Value} {wr : World} {tk : List UInt8} {nk : Nat} {t' : List UInt8} {n' : Nat} (h : ElSt f B R bd off cap d mem p cnt op bs t n w k v wr tk nk t' n')
    {sep t1 t2 t3 : List UInt8} {n1 n2 n3 j : Nat} (hj : cnt - k = j + 1) (e3 : elems (item f) mem j false ((d.drop (p + nk)).drop (n1 + n2)) = some (t3, n3)) (e4 : t' = sep ++ t1 ++ t2 ++ t3) (e5 : n' = n1 + n2 + n3) (hle : sep.length + t1.length + t2.length ≤ 24 * (n1 + n2)) (hn : p + nk + (n1 + n2) ≤ d.length)
    {v2 : Value} {w2 : World} (ho : Own B w2 v2 (bs ++ op :: (tk ++ sep ++ t1 ++ t2))) (hr : Rd w2 R (.slice (some ⟨bd, off, none⟩) d.length cap) (p + (nk + (n1 + n2)))) (hk : KeptR B R wr w2) :
    ElSt f B R bd off cap d mem p cnt op bs t n w (k + 1) v2 w2 (tk ++ sep ++ t1 ++ t2) (nk + (n1 + n2)) t3 n3 where
  own := ho
  rd := hr
  rest := by
    rw [show cnt - (k + 1) = j from by omega, show decide (k + 1 = 0) = false from by simp, show p + (nk + (n1 + n2)) = p + nk + (n1 + n2) from by omega, ← List.drop_drop]
    exact e3
  text := by rw [h.text, e4]; simp
  num := by rw [h.num, e5]; omega
  len := by have := h.len; simp; omega
  le := by omega
  kept := h.kept.trans hk

set_option maxHeartbeats 2000000 in
theorem elems_any (f B R bd off cap : Nat) (d : List UInt8) (hIH : RdSpec f B R bd off cap d) (hbd : bd < B) (mem : Bool)
    (p cnt : Nat) (v : Value) (bs : List UInt8) (op fi : UInt8) (w : World) (t : List UInt8) (n : Nat) (hcnt : cnt < 18446744073709551616) (he : elems (item f) mem cnt true (d.drop p) = some (t, n)) (hpl : p ≤ d.length)
    (hown : Own B w v bs) (hrd : Rd w R (.slice (some ⟨bd, off, none⟩) d.length cap) p) (hby : Bytes w bd off d) (hB : B ≤ w.heap.size) (hlim : bs.length + 24 * (d.length - p) + 84 ≤ 140737488355328) (htab : Lib.TabBelow Tryd.prog B w powName .u64 Lib.pow10Tab) :
    Calls Tryd.prog 19 #[.pointer (some ⟨R, 0, none⟩), v, .int .u8 op.toNat, .int .u8 fi.toNat, .int .u64 cnt, .bool mem] w fun e w' => RApp B R (.slice (some ⟨bd, off, none⟩) d.length cap) w bs (op :: (t ++ [fi])) (p + n) e w' := by
  obtain ⟨a, m, cp, rfl, _⟩ := hown.shape
  have HIH := hide hIH
  have HE := hide he
  have HO := hide hown
  have HRD := hide hrd
  have HBY := hide hby
  have HT := hide htab
  clear hIH he hown hrd hby htab
  go_enter Tryd.func19, Tryd.ntmps19
  go_wp2_with (at_builtin; refine wpList_app rfl (.tmp 14) (.tmp 16) rfl B _ bs rfl (HO.out.alloc _) [op] ⟨_, 0, none⟩ 1 1 rfl rfl (lit_cells _ [op] 5) (by simp; omega) (by simp; omega) ?_; intro v1 w1 hown1 hk1)
  have HK1 : Hid (Kept B w w1) := hide (((Kept.refl _ _).alloc hB _).trans hk1)
  have HO1 := hide hown1
  clear hown1 hk1
  go_loopw [1, 19] (fun v i wr => ∃ (k : Nat) (tk : List UInt8) (nk : Nat) (t' : List UInt8) (n' : Nat), k ≤ cnt ∧ i = .int .u64 k ∧ ElSt f B R bd off cap d mem p cnt op bs t n w k v wr tk nk t' n') (fun _ i _ => cnt - (intOf i).toNat)
  case atStart =>
    exact ⟨0, [], 0, t, n, Nat.zero_le _, rfl, ⟨HO1.out, HRD.out.kept HK1.out, HE.out, rfl, by omega, by simp, by omega, HK1.out.toR R⟩⟩
  case round =>
    clear HO1 HK1
    obtain ⟨k, tk, nk, t', n', hk, rfl, hS⟩ := hrel
    have HS := hide hS
    clear hS
    have hsz : B ≤ wr.heap.size := by have := HS.out.kept.size; omega
    have hle := HS.out.le
    have hln := HS.out.len
    by_cases hlt : k < cnt
    · obtain ⟨j, hj⟩ : ∃ j, cnt - k = j + 1 := ⟨cnt - k - 1, by omega⟩
      have hrest := HS.out.rest
      rw [hj] at hrest
      obtain ⟨t1, n1, t2, n2, t3, n3, e1, e2, e3, e4, e5⟩ := elems_step hrest
      have b1 := item_bnd f _ _ _ e1
      rw [List.length_drop] at b1
      have HE1 := hide e1
      have HE2 := hide e2
      have HE3 := hide e3
      have HE4 := hide e4
      have HE5 := hide e5
      have HJ := hide hj
      have HBYr := hide (HBY.out.keptR HS.out.kept hbd)
      have HTr := hide (HT.out.on HS.out.kept.1)
      clear hrest e1 e2 e3 e4 e5 hj
      by_cases hk0 : k = 0
      · subst hk0
        cases mem with
        | false =>
          have e2 := HE2.out
          simp only [Bool.false_eq_true, if_false] at e2
          obtain ⟨rfl, rfl⟩ := e2
          clear HE2
          have HO2 := hide HS.out.own
          have HR2 := hide HS.out.rd
          have HK2 := hide (KeptR.refl B R wr)
          obtain ⟨wq, ewq⟩ : ∃ wq, wq = wr := ⟨_, rfl⟩
          have hszq := hsz
          go_wp2_with fail
          refine (HIH.out (p+nk) _ (bs ++ op :: tk) _ t1 n1 HE1.out HO2.out HR2.out HBYr.out hszq (by simp; omega) HTr.out).mono ?_
          rintro e w2 ⟨v2, rfl, hown2, hrd2, hk2⟩
          have HS2 := hide (HS.out.next (sep := []) (t1 := t1) (t2 := []) (n1 := n1) (n2 := 0) HJ.out HE3.out (by have := HE4.out; simpa using this) HE5.out (by simp; omega) (by omega) (v2 := v2) (w2 := w2) (by simpa using hown2) (by rw [show p + (nk + (n1 + 0)) = p + nk + n1 from by omega]; exact hrd2) (HK2.out.trans hk2))
          clear hown2 hrd2 hk2
          go_wp2
          go_roundw
          case rel => exact ⟨0 + 1, _, _, _, _, by omega, by simp, HS2.out⟩
          case measure => simp [intOf]; omega
        | true =>
          have e2 := HE2.out
          simp only [if_true] at e2
          obtain ⟨u, e2, rfl⟩ := e2
          have b2 := item_bnd f _ _ _ e2
          rw [List.length_drop, List.length_drop] at b2
          rw [List.drop_drop] at e2
          have HEu := hide e2
          clear e2
          clear HE2
          have HO2 := hide HS.out.own
          have HR2 := hide HS.out.rd
          have HK2 := hide (KeptR.refl B R wr)
          obtain ⟨wq, ewq⟩ : ∃ wq, wq = wr := ⟨_, rfl⟩
          have hszq := hsz
          go_wp2_with fail
          refine (HIH.out (p+nk) _ (bs ++ op :: tk) _ t1 n1 HE1.out HO2.out HR2.out HBYr.out hszq (by simp; omega) HTr.out).mono ?_
          rintro e w2 ⟨v2, rfl, hown2, hrd2, hk2⟩
          have hsz2 : B ≤ w2.heap.size := by have := hk2.size; omega
          have HO5 := hide hown2
          have HR5 := hide hrd2
          have HK5 := hide (HK2.out.trans hk2)
          replace HBYr := hide (HBYr.out.keptR hk2 hbd)
          replace HTr := hide (HTr.out.on hk2.1)
          clear hown2 hrd2 hk2 HO2 HR2 HK2
          go_wp2_with (at_builtin; refine wpList_app rfl (.tmp 31) (.tmp 32) rfl B _ ((bs ++ op :: tk) ++ t1) rfl (HO5.out.alloc _) [58] ⟨_, 0, none⟩ 1 1 rfl rfl (lit_cells _ [58] 5) (by simp; omega) (by simp; omega) ?_; intro v4 w4 hown4 hk4)
          have hK4 : Kept B w2 w4 := ((Kept.refl _ _).alloc hsz2 _).trans hk4
          have HR6 := hide (HR5.out.kept hK4)
          have HO6 := hide hown4
          have HK6 := hide (HK5.out.trans (hK4.toR R))
          have hsz4 : B ≤ w4.heap.size := by have := hK4.1.size; omega
          replace HBYr := hide (HBYr.out.keptR (hK4.toR R) hbd)
          replace HTr := hide (HTr.out.on hK4.1)
          clear hown4 hk4 hK4 HO5 HR5 HK5
          go_wp2_with fail
          refine (HIH.out (p+nk+n1) _ ((bs ++ op :: tk) ++ t1 ++ [58]) _ u n2 HEu.out HO6.out HR6.out HBYr.out hsz4 (by simp; omega) HTr.out).mono ?_
          rintro e w7 ⟨v7, rfl, hown7, hrd7, hk7⟩
          have HS2 := hide (HS.out.next (sep := []) (t1 := t1) (t2 := 58 :: u) (n1 := n1) (n2 := n2) HJ.out HE3.out (by have := HE4.out; simpa using this) HE5.out (by simp; omega) (by omega) (v2 := v7) (w2 := w7) (by simpa using hown7) (by rw [show p + (nk + (n1 + n2)) = p + nk + n1 + n2 from by omega]; exact hrd7) (HK6.out.trans hk7))
          clear hown7 hrd7 hk7 HO6 HR6 HK6
          go_wp2
          go_roundw
          case rel => exact ⟨0 + 1, _, _, _, _, by omega, by simp, HS2.out⟩
          case measure => simp [intOf]; omega
      · cases mem with
        | false =>
          have e2 := HE2.out
          simp only [Bool.false_eq_true, if_false] at e2
          obtain ⟨rfl, rfl⟩ := e2
          clear HE2
          go_wp2_with (at_builtin; refine wpList_app rfl (.tmp 24) (.tmp 25) rfl B _ (bs ++ op :: tk) rfl (HS.out.own.alloc _) [44] ⟨_, 0, none⟩ 1 1 rfl rfl (lit_cells _ [44] 5) (by simp; omega) (by simp; omega) ?_; intro v3 w3 hown3 hk3)
          have hK3 : Kept B wr w3 := ((Kept.refl _ _).alloc hsz _).trans hk3
          have HO2 : Hid (Own B w3 v3 (bs ++ op :: (tk ++ [44]))) := hide (by simpa using hown3)
          have HR2 := hide (HS.out.rd.kept hK3)
          have HK2 := hide (hK3.toR R)
          have hszq : B ≤ w3.heap.size := by have := hK3.1.size; omega
          replace HBYr := hide (HBYr.out.keptR HK2.out hbd)
          replace HTr := hide (HTr.out.on hK3.1)
          clear hown3 hk3 hK3
          go_wp2_with fail
          refine (HIH.out (p+nk) _ (bs ++ op :: (tk ++ [44])) _ t1 n1 HE1.out HO2.out HR2.out HBYr.out hszq (by simp; omega) HTr.out).mono ?_
          rintro e w2 ⟨v2, rfl, hown2, hrd2, hk2⟩
          have HS2 := hide (HS.out.next (sep := [44]) (t1 := t1) (t2 := []) (n1 := n1) (n2 := 0) HJ.out HE3.out (by have := HE4.out; simpa [hk0] using this) HE5.out (by simp; omega) (by omega) (v2 := v2) (w2 := w2) (by simpa using hown2) (by rw [show p + (nk + (n1 + 0)) = p + nk + n1 from by omega]; exact hrd2) (HK2.out.trans hk2))
          clear hown2 hrd2 hk2
          go_wp2
          go_roundw
          case rel => exact ⟨k + 1, _, _, _, _, by omega, by simp, HS2.out⟩
          case measure => simp [intOf]; omega
        | true =>
          have e2 := HE2.out
          simp only [if_true] at e2
          obtain ⟨u, e2, rfl⟩ := e2
          have b2 := item_bnd f _ _ _ e2
          rw [List.length_drop, List.length_drop] at b2
          rw [List.drop_drop] at e2
          have HEu := hide e2
          clear e2
          clear HE2
          go_wp2_with (at_builtin; refine wpList_app rfl (.tmp 24) (.tmp 25) rfl B _ (bs ++ op :: tk) rfl (HS.out.own.alloc _) [44] ⟨_, 0, none⟩ 1 1 rfl rfl (lit_cells _ [44] 5) (by simp; omega) (by simp; omega) ?_; intro v3 w3 hown3 hk3)
          have hK3 : Kept B wr w3 := ((Kept.refl _ _).alloc hsz _).trans hk3
          have HO2 : Hid (Own B w3 v3 (bs ++ op :: (tk ++ [44]))) := hide (by simpa using hown3)
          have HR2 := hide (HS.out.rd.kept hK3)
          have HK2 := hide (hK3.toR R)
          have hszq : B ≤ w3.heap.size := by have := hK3.1.size; omega
          replace HBYr := hide (HBYr.out.keptR HK2.out hbd)
          replace HTr := hide (HTr.out.on hK3.1)
          clear hown3 hk3 hK3
          go_wp2_with fail
          refine (HIH.out (p+nk) _ (bs ++ op :: (tk ++ [44])) _ t1 n1 HE1.out HO2.out HR2.out HBYr.out hszq (by simp; omega) HTr.out).mono ?_
          rintro e w2 ⟨v2, rfl, hown2, hrd2, hk2⟩
          have hsz2 : B ≤ w2.heap.size := by have := hk2.size; omega
          have HO5 := hide hown2
          have HR5 := hide hrd2
          have HK5 := hide (HK2.out.trans hk2)
          replace HBYr := hide (HBYr.out.keptR hk2 hbd)
          replace HTr := hide (HTr.out.on hk2.1)
          clear hown2 hrd2 hk2 HO2 HR2 HK2
          go_wp2_with (at_builtin; refine wpList_app rfl (.tmp 31) (.tmp 32) rfl B _ ((bs ++ op :: (tk ++ [44])) ++ t1) rfl (HO5.out.alloc _) [58] ⟨_, 0, none⟩ 1 1 rfl rfl (lit_cells _ [58] 5) (by simp; omega) (by simp; omega) ?_; intro v4 w4 hown4 hk4)
          have hK4 : Kept B w2 w4 := ((Kept.refl _ _).alloc hsz2 _).trans hk4
          have HR6 := hide (HR5.out.kept hK4)
          have HO6 := hide hown4
          have HK6 := hide (HK5.out.trans (hK4.toR R))
          have hsz4 : B ≤ w4.heap.size := by have := hK4.1.size; omega
          replace HBYr := hide (HBYr.out.keptR (hK4.toR R) hbd)
          replace HTr := hide (HTr.out.on hK4.1)
          clear hown4 hk4 hK4 HO5 HR5 HK5
          go_wp2_with fail
          refine (HIH.out (p+nk+n1) _ ((bs ++ op :: (tk ++ [44])) ++ t1 ++ [58]) _ u n2 HEu.out HO6.out HR6.out HBYr.out hsz4 (by simp; omega) HTr.out).mono ?_
          rintro e w7 ⟨v7, rfl, hown7, hrd7, hk7⟩
          have HS2 := hide (HS.out.next (sep := [44]) (t1 := t1) (t2 := 58 :: u) (n1 := n1) (n2 := n2) HJ.out HE3.out (by have := HE4.out; simpa [hk0] using this) HE5.out (by simp; omega) (by omega) (v2 := v7) (w2 := w7) (by simpa using hown7) (by rw [show p + (nk + (n1 + n2)) = p + nk + n1 + n2 from by omega]; exact hrd7) (HK6.out.trans hk7))
          clear hown7 hrd7 hk7 HO6 HR6 HK6
          go_wp2
          go_roundw
          case rel => exact ⟨k + 1, _, _, _, _, by omega, by simp, HS2.out⟩
          case measure => simp [intOf]; omega
    · have hke : k = cnt := by omega
      subst hke
      have hrest := HS.out.rest
      rw [Nat.sub_self] at hrest
      simp only [elems, Option.some.injEq, Prod.mk.injEq] at hrest
      obtain ⟨rfl, rfl⟩ := hrest
      have HTx := hide HS.out.text
      have HNx := hide HS.out.num
      go_wp2_with (at_builtin; refine wpList_app rfl (.tmp 38) (.tmp 40) rfl B _ (bs ++ op :: tk) rfl (HS.out.own.alloc _) [fi] ⟨_, 0, none⟩ 1 1 rfl rfl (lit_cells _ [fi] 5) (by simp; omega) (by simp; omega) ?_; intro v3 w3 hown3 hk3)
      have hK3 : Kept B wr w3 := ((Kept.refl _ _).alloc hsz _).trans hk3
      have HQ : Hid (RApp B R (.slice (some ⟨bd, off, none⟩) d.length cap) w bs (op :: (t ++ [fi])) (p + n) (.returned v3) w3) := hide ⟨v3, rfl, by rw [HTx.out]; simpa using hown3, by rw [HNx.out]; exact HS.out.rd.kept hK3, HS.out.kept.trans (hK3.toR R)⟩
      clear hown3 hk3 hK3
      go_wp2
      go_ret
      exact HQ.out
end Go.Proofs.Qxb6604022aDoor
