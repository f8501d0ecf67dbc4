import Derived.Test.Qxb6604022aDoorOwn
namespace Go.Proofs.Qxb6604022aDoor
open Go.RowKit Go.Sort

theorem Kept.of_below2 {B : Nat} {w w' : World} (hb : Below w.heap.size w w') (hB : B ≤ w.heap.size) : Kept B w w' :=
  ⟨⟨hb.os, hb.tape, hb.output, hb.size, fun k hk => hb.block k (by omega)⟩, (Lib.OthersKept.refl _ _ w).below hb⟩

/-! ### strconv, on a value that owns its bytes or is a full row of them -/
theorem u_small (B : Nat) (v : Value) (bs : List UInt8) (u : Nat) (w : World) (hu : u < 100) (hown : Own B w v bs) (hB : B ≤ w.heap.size) (hlim : bs.length + 20 ≤ 140737488355328) :
    Calls Tryd.prog 20 #[v, .int .u64 u, .int .i64 10] w fun e w' => App B w bs (Lib.decDigits u) e w' := by
  obtain ⟨a, n, c, rfl, _⟩ := hown.shape
  have HO := hide hown
  have hl := dec_len u (by omega)
  clear hown
  go_enter Tryd.func20, Tryd.ntmps20
  go_wp2_with (first
    | (go_at_call 23; refine (Tryd.internal_strconv_small u hu _).mono ?_; rintro e w' ⟨rfl, rfl⟩)
    | (at_builtin; refine wpList_appS rfl _ _ rfl B _ bs rfl HO.out (Lib.decDigits u) rfl (by omega) hB ?_; intro v1 w1 ho hk))
  go_ret
  exact ⟨v1, rfl, ho, hk⟩

/-- What formatBase10 has left: the old world, draws, one new row that holds the numeral. -/
structure Fmt (w w2 : World) (u : Nat) : Prop where
  blk : ∀ k, k < w.heap.size → w2.heap[k]? = w.heap[k]?
  below : Below w.heap.size w w2
  cells : ∀ j x, (Lib.byteCells (Lib.decDigits u))[j]? = some x → w2.cell? ((⟨w.heap.size, 0, none⟩ : Addr).add j) = some x

theorem fmt_call (w : World) (u : Nat) (hu64 : u < 18446744073709551616) :
    Calls Tryd.prog 25 #[.slice (some ⟨w.heap.size, 0, none⟩) (Lib.nDigits u) 24, .int .u64 u] (w.alloc (.cells Lib.zeros24 50)) fun e w2 => e = .returned (.tuple #[]) ∧ Fmt w w2 u := by
  have hnd20 : Lib.nDigits u ≤ 20 := by rw [← Lib.decDigits_length]; exact dec_len u hu64
  have hH0 := Lib.holds_zero0 w 50 (Lib.nDigits u) (by omega)
  have hfmt := Tryd.internal_strconv_formatBase10 w.heap.size 0 24 u (Array.replicate (Lib.nDigits u) 0) (w.alloc (.cells Lib.zeros24 50)) hH0 (by rw [Array.size_replicate]; exact Lib.lt_pow_nDigits u) hu64 (by rw [Array.size_replicate]; omega)
  rw [Array.size_replicate] at hfmt
  refine hfmt.mono ?_
  rintro e w' ⟨rfl, k, v', dk, rfl, hF⟩
  obtain ⟨os, eo⟩ := Lib.fin_at w (.cells Lib.zeros24 50) dk k 0
  refine ⟨rfl, ?_, ?_, ?_⟩
  · intro j hj
    rw [eo]
    exact Lib.heap_grow_old w k os j hj
  · rw [eo]
    exact Lib.below_grow w.heap.size w (Nat.le_refl _) k os
  · intro j u' hj
    have hjl : j < (Lib.decDigits u).length := by
      have h5 := (List.getElem?_eq_some_iff.1 hj).1
      rwa [Lib.byteCells_length] at h5
    have e5 : (Lib.byteCells (Lib.decDigits u))[j]? = some (Value.int .u8 ((Lib.decDigits u)[j].toNat : Int)) := by simp [Lib.byteCells, hjl]
    rw [e5] at hj
    cases hj
    rw [Lib.row_is_numeral hF j hjl, Lib.add_plain, World.cell?_drewN]
    exact cell?_putRow (fun (b : UInt8) => Value.int .u8 (b.toNat : Int)) _ w.heap.size 0 _ dk hH0 (by rw [hF.size, Array.size_replicate]) j (by rw [hF.size]; rw [Lib.decDigits_length] at hjl; exact hjl)

set_option maxHeartbeats 4000000 in
set_option maxRecDepth 20000 in
theorem u_big (B : Nat) (v : Value) (bs : List UInt8) (u : Nat) (w : World) (hu : 100 ≤ u) (hu64 : u < 18446744073709551616) (hown : Own B w v bs) (hB : B ≤ w.heap.size) (hlim : bs.length + 20 ≤ 140737488355328)
    (htab : Lib.TabIs Tryd.prog w powName .u64 Lib.pow10Tab) :
    Calls Tryd.prog 20 #[v, .int .u64 u, .int .i64 10] w fun e w' => App B w bs (Lib.decDigits u) e w' := by
  obtain ⟨a, n, c, rfl, _⟩ := hown.shape
  have HO := hide hown
  have HT := hide htab
  have hnd : (Lib.decDigits u).length = Lib.nDigits u := Lib.decDigits_length u
  have hnd20 : Lib.nDigits u ≤ 20 := by rw [← hnd]; exact dec_len u hu64
  clear hown htab
  have hu1 : 1 ≤ u := by omega
  have iu : (100 : Int) ≤ (u : Int) := by omega
  have hal : Tryd.prog.arrayLen 50 = 24 := by simp [Program.arrayLen, Tryd.underlying50]
  have hsl : ∀ W, (Instr.sliceAt 50 (.pointer (some ⟨w.heap.size, 0, none⟩)) none (some (.int .i64 (Lib.nDigits u : Int))) none).run Tryd.prog W = .ok (.slice (some ⟨w.heap.size, 0, none⟩) (Lib.nDigits u) 24) W := fun W => by
    rw [run_sliceAt_array_h W 50 ⟨w.heap.size, 0, none⟩ (by simp [Program.arrayLen, Program.elem, Tryd.underlying50]) .i64 (Lib.nDigits u : Int) (by omega) (by rw [hal]; omega)]
    go_simp
  clear hal
  have HN := hide hnd
  clear hnd
  go_enter Tryd.func20, Tryd.ntmps20
  go_wp2_with (first
    | (go_at_call 24; refine (Tryd.internal_strconv_numDigits u hu1 hu64 _ (Lib.tabIs_alloc HT.out _)).mono ?_; rintro e w' ⟨rfl, rfl⟩))
  go_at_call 25
  refine (fmt_call w u hu64).mono ?_
  rintro e w2 ⟨rfl, hF⟩
  have HF := hide hF
  have hown2 : Own B w2 (.slice a n c) bs := HO.out.keep fun k hk => hF.blk k (HO.out.lt k hk)
  have HO2 := hide hown2
  have hsz2 := hF.below.size
  clear hF hown2
  go_wp2_with (at_builtin; refine wpList_app rfl _ _ rfl B _ bs rfl HO2.out (Lib.decDigits u) ⟨w.heap.size, 0, none⟩ (Lib.nDigits u) 24 HN.out.symm rfl HF.out.cells (by have := HN.out; omega) (by omega) ?_; intro v3 w3 ho hk)
  go_ret
  exact ⟨v3, rfl, ho, (Kept.of_below2 HF.out.below hB).trans hk⟩

theorem u_any (B : Nat) (v : Value) (bs : List UInt8) (u : Nat) (w : World) (hu64 : u < 18446744073709551616) (hown : Own B w v bs) (hB : B ≤ w.heap.size) (hlim : bs.length + 20 ≤ 140737488355328)
    (htab : Lib.TabIs Tryd.prog w powName .u64 Lib.pow10Tab) :
    Calls Tryd.prog 20 #[v, .int .u64 u, .int .i64 10] w fun e w' => App B w bs (Lib.decDigits u) e w' := by
  by_cases h : u < 100
  · exact u_small B v bs u w h hown hB hlim
  · exact u_big B v bs u w (by omega) hu64 hown hB hlim htab

theorem appUint_any (B : Nat) (v : Value) (bs : List UInt8) (u : Nat) (w : World) (hu : u < 18446744073709551616) (hown : Own B w v bs) (hB : B ≤ w.heap.size) (hlim : bs.length + 20 ≤ 140737488355328)
    (htab : Lib.TabIs Tryd.prog w powName .u64 Lib.pow10Tab) :
    Calls Tryd.prog 16 #[v, .int .u64 u, .int .i64 10] w fun e w' => App B w bs (Lib.decDigits u) e w' := by
  have HC := hide (u_any B v bs u w hu hown hB hlim htab)
  obtain ⟨a, n, c, rfl, _⟩ := hown.shape
  clear hown htab
  go_enter Tryd.func16, Tryd.ntmps16
  go_wp2_with (go_at_call 20; refine HC.out.mono ?_; rintro e w' ⟨v', rfl, h1, h2⟩)
  go_ret
  exact ⟨_, rfl, h1, h2⟩

/-- A negative number: the sign, then the digits. -/
theorem appNeg21 (B : Nat) (v : Value) (bs : List UInt8) (k : Nat) (w : World) (hk : k ≤ 9223372036854775807) (hown : Own B w v bs) (hB : B ≤ w.heap.size) (hlim : bs.length + 21 ≤ 140737488355328)
    (htab : Lib.TabBelow Tryd.prog B w powName .u64 Lib.pow10Tab) :
    Calls Tryd.prog 21 #[v, .int .i64 (-1 - (k : Int)), .int .i64 10] w fun e w' => App B w bs (45 :: Lib.decDigits (k + 1)) e w' := by
  obtain ⟨a, n, c, rfl, _⟩ := hown.shape
  have HO := hide hown
  have HT := hide htab
  clear hown htab
  have hw1 : IntKind.u64.wrap (-1 - (k : Int)) = 18446744073709551615 - (k : Int) := by rw [IntKind.wrap_u64]; omega
  have hw2 : IntKind.u64.wrap (-(18446744073709551615 - (k : Int))) = ((k + 1 : Nat) : Int) := by rw [IntKind.wrap_u64]; omega
  go_enter Tryd.func21, Tryd.ntmps21
  go_wp2_with (at_builtin; refine wpList_app rfl (.tmp 12) (.tmp 13) rfl B _ bs rfl (HO.out.alloc _) [45] ⟨_, 0, none⟩ 1 1 rfl rfl (lit_cells _ [45] 5) (by simp; omega) (by simp; omega) ?_; intro v1 w1 hown1 hk1)
  have HK1 : Hid (Kept B w w1) := hide (((Kept.refl _ _).alloc hB _).trans hk1)
  have HO1 := hide hown1
  clear hown1 hk1
  go_wp2_with fail
  go_at_call 20
  refine (u_any B _ (bs ++ [45]) (k + 1) w1 (by omega) HO1.out (by have := HK1.out.size; omega) (by simp; omega) (HT.out.on HK1.out.1).here).mono ?_
  rintro e w' ⟨v', rfl, h1, h2⟩
  go_wp2
  go_ret
  exact ⟨_, rfl, by simpa using h1, HK1.out.trans h2⟩

theorem appNeg_any (B : Nat) (v : Value) (bs : List UInt8) (k : Nat) (w : World) (hk : k ≤ 9223372036854775807) (hown : Own B w v bs) (hB : B ≤ w.heap.size) (hlim : bs.length + 21 ≤ 140737488355328)
    (htab : Lib.TabBelow Tryd.prog B w powName .u64 Lib.pow10Tab) :
    Calls Tryd.prog 17 #[v, .int .i64 (-1 - (k : Int)), .int .i64 10] w fun e w' => App B w bs (45 :: Lib.decDigits (k + 1)) e w' := by
  have HC := hide (appNeg21 B v bs k w hk hown hB hlim htab)
  obtain ⟨a, n, c, rfl, _⟩ := hown.shape
  clear hown htab
  go_enter Tryd.func17, Tryd.ntmps17
  go_wp2_with (go_at_call 21; refine HC.out.mono ?_; rintro e w' ⟨v', rfl, h1, h2⟩)
  go_ret
  exact ⟨_, rfl, h1, h2⟩
end Go.Proofs.Qxb6604022aDoor
