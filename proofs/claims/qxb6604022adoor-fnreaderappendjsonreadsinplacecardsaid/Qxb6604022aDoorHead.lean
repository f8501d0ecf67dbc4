import Derived.Test.Qxb6604022aDoorStr
import Derived.Laws.BitsAllLaws
namespace Go.Proofs.Qxb6604022aDoor
open Go.RowKit

set_option maxHeartbeats 1000000 in
theorem str_zero (B : Nat) (v : Value) (bs : List UInt8) (X : Addr) (c : Nat) (w : World) (hown : Own B w v bs) (hB : B ≤ w.heap.size) (hlim : bs.length + 40 ≤ 140737488355328) :
    Calls Tryd.prog 18 #[v, .slice (some X) 0 c] w fun e w' => App B w bs [34, 34] e w' := by
  obtain ⟨a, m, cp, rfl, _⟩ := hown.shape
  have HO := hide hown
  clear hown
  by_cases hc : c = 0
  · subst hc
    go_enter Tryd.func18, Tryd.ntmps18
    go_wp2_with (at_builtin; refine wpList_app rfl (.tmp 8) (.tmp 9) rfl B _ bs rfl (HO.out.alloc _) [34] ⟨_, 0, none⟩ 1 1 rfl rfl (lit_cells _ [34] 5) (by simp; omega) (by simp; omega) ?_; intro v1 w1 hown1 hk1)
    refine wp_loop_rounds 1 ?_; rw [rounds_succ]
    have HK1 : Hid (Kept B w w1) := hide (((Kept.refl _ _).alloc hB _).trans hk1)
    have HO1 := hide hown1
    clear hown1 hk1
    go_wp2_with (first
      | (at_builtin; refine wpList_app rfl (.tmp 69) (.tmp 72) rfl B _ (bs ++ [34]) rfl HO1.out [] X 0 0 rfl rfl (fun j u h => by simp [Lib.byteCells] at h) (by simp; omega) (by have := HK1.out.size; omega) ?_; intro v2 w2 hown2 hk2)
      | (at_builtin; refine wpList_app rfl (.tmp 74) (.tmp 75) rfl B _ (bs ++ [34]) rfl (Own.alloc (by have h := hown2; rw [List.append_nil] at h; exact h) _) [34] ⟨_, 0, none⟩ 1 1 rfl rfl (lit_cells _ [34] 5) (by simp; omega) (by have := hk2.size; have := HK1.out.size; simp; omega) ?_; intro v3 w3 hown3 hk3))
    go_ret
    refine ⟨_, rfl, ?_, HK1.out.trans (hk2.trans (((Kept.refl _ _).alloc (by have := hk2.size; have := HK1.out.size; omega) _).trans hk3))⟩
    have h := hown3
    rw [List.append_assoc] at h
    exact h
  · go_enter Tryd.func18, Tryd.ntmps18
    go_wp2_with (at_builtin; refine wpList_app rfl (.tmp 8) (.tmp 9) rfl B _ bs rfl (HO.out.alloc _) [34] ⟨_, 0, none⟩ 1 1 rfl rfl (lit_cells _ [34] 5) (by simp; omega) (by simp; omega) ?_; intro v1 w1 hown1 hk1)
    refine wp_loop_rounds 1 ?_; rw [rounds_succ]
    have HK1 : Hid (Kept B w w1) := hide (((Kept.refl _ _).alloc hB _).trans hk1)
    have HO1 := hide hown1
    clear hown1 hk1
    go_wp2_with (first
      | (at_builtin; refine wpList_app rfl (.tmp 69) (.tmp 72) rfl B _ (bs ++ [34]) rfl HO1.out [] _ 0 c rfl rfl (fun j u h => by simp [Lib.byteCells] at h) (by simp; omega) (by have := HK1.out.size; omega) ?_; intro v2 w2 hown2 hk2)
      | (at_builtin; refine wpList_app rfl (.tmp 74) (.tmp 75) rfl B _ (bs ++ [34]) rfl (Own.alloc (by have h := hown2; rw [List.append_nil] at h; exact h) _) [34] ⟨_, 0, none⟩ 1 1 rfl rfl (lit_cells _ [34] 5) (by simp; omega) (by have := hk2.size; have := HK1.out.size; simp; omega) ?_; intro v3 w3 hown3 hk3))
    go_ret
    refine ⟨_, rfl, ?_, HK1.out.trans (hk2.trans (((Kept.refl _ _).alloc (by have := hk2.size; have := HK1.out.size; omega) _).trans hk3))⟩
    have h := hown3
    rw [List.append_assoc] at h
    exact h

/-! ### The reader in memory -/
def Rd (w : World) (R : Nat) (dv : Value) (p : Nat) : Prop := w.heap[R]? = some (.cells #[dv, .int .i64 p] 39 (0, 0))
theorem Rd.c0 {w : World} {R : Nat} {dv : Value} {p : Nat} (h : Rd w R dv p) : w.cell? ⟨R, 0, none⟩ = some dv := by rw [cell_of_row w R 0 _ _ _ h]; rfl
theorem Rd.c1 {w : World} {R : Nat} {dv : Value} {p : Nat} (h : Rd w R dv p) : w.cell? ⟨R, 1, none⟩ = some (.int .i64 p) := by rw [cell_of_row w R 1 _ _ _ h]; rfl
theorem Rd.f1 {w : World} {R : Nat} {dv : Value} {p : Nat} (h : Rd w R dv p) : w.frozen? ⟨R, 1, none⟩ = false := frozen_of_row w R 1 _ _ h
theorem Rd.set {w : World} {R : Nat} {dv : Value} {p : Nat} (h : Rd w R dv p) (q : Nat) : Rd (w.setCell ⟨R, 1, none⟩ (.int .i64 q)) R dv q := by
  unfold Rd
  rw [heap_setCell_same w R 1 _ _ _ h]
  rfl
theorem Rd.drewN {w : World} {R : Nat} {dv : Value} {p : Nat} (h : Rd w R dv p) (n : Nat) : Rd (w.drewN n) R dv p := h
theorem grown_setCell (w : World) (a : Addr) (v : Value) : w.grownBy (w.setCell a v) (some a.block) :=
  ⟨rfl, rfl, rfl, by simp, fun k _ hk => heap_setCell_other w a k v (fun e => hk (by simp [e]))⟩
theorem grown_trans {a b c : World} {row : Option Nat} (h1 : a.grownBy b row) (h2 : b.grownBy c row) : a.grownBy c row :=
  ⟨h2.os.trans h1.os, h2.tape.trans h1.tape, h2.output.trans h1.output, Nat.le_trans h1.size h2.size, fun k hk hne => (h2.block k (Nat.lt_of_lt_of_le hk h1.size) hne).trans (h1.block k hk hne)⟩
theorem grown_drewN {a b : World} {row : Option Nat} (h : a.grownBy b row) (n : Nat) : a.grownBy (b.drewN n) row := ⟨h.os, h.tape, h.output, h.size, h.block⟩

theorem and224 (x : Nat) (h : x < 256) : bits BinOp.and IntKind.u8 (x : Int) 224 = ((x / 32 * 32 : Nat) : Int) := by
  have key : ∀ y : Fin 256, bits BinOp.and IntKind.u8 ((y.val : Nat) : Int) 224 = ((y.val / 32 * 32 : Nat) : Int) := by decide +kernel
  exact key ⟨x, h⟩
theorem ret_head {a b : Int} {c d : Nat} (h1 : a = (c : Int)) (h2 : b = (d : Int)) : Ending.returned (.tuple #[.int .u8 a, .int .u64 b]) = .returned (.tuple #[.int .u8 (c : Int), .int .u64 (d : Int)]) := by rw [h1, h2]
set_option maxHeartbeats 1000000 in
theorem head_short (R bd off len cap p : Nat) (x : Nat) (w : World) (hr : Rd w R (.slice (some ⟨bd, off, none⟩) len cap) p) (hp : p < len) (hl : len ≤ 1048576) (hx : x < 256) (hc : w.cell? ⟨bd, off + p, none⟩ = some (.int .u8 x)) (hs : x % 32 < 24) :
    Calls Tryd.prog 15 #[.pointer (some ⟨R, 0, none⟩)] w fun e w' => e = .returned (.tuple #[.int .u8 ((x / 32 * 32 : Nat) : Int), .int .u64 ((x % 32 : Nat) : Int)]) ∧ Rd w' R (.slice (some ⟨bd, off, none⟩) len cap) (p + 1) ∧ w.grownBy w' (some R) := by
  have c0 := hr.c0
  have c1 := hr.c1
  have f1 := hr.f1
  have HR := hide hr
  clear hr
  go_enter Tryd.func15, Tryd.ntmps15
  go_wp2
  go_quiet (fail)
  go_wp2
  go_ret2
  exact ⟨ret_head (and224 x hx) (by omega), (HR.out.drewN nq).set (p + 1), grown_trans (grown_drewN (World.grownBy.refl _ _) nq) (grown_setCell _ _ _)⟩

theorem or_add (y c : Nat) (hy : y < 72057594037927936) (hc : c < 256) : bits BinOp.or IntKind.u64 ((y : Int) * 256) (c : Int) = ((y * 256 + c : Nat) : Int) := by
  have h := u64_or_nat (y * 256) c (by omega) (by omega)
  rw [Int.natCast_mul] at h
  rw [show (y : Int) * 256 = (y : Int) * ((256 : Nat) : Int) from rfl, h]
  congr 1
  rw [Nat.mul_comm]
  exact (Nat.two_pow_add_eq_or_of_lt (i := 8) hc y).symm
theorem be56 (tl : List UInt8) (k : Nat) (hk : k ≤ 7) : beNat 0 (tl.take k) < 72057594037927936 := by
  have h := beNat_lt (tl.take k) 0 0 (by decide)
  have hl : (tl.take k).length ≤ 7 := by rw [List.length_take]; omega
  have hp : 256 ^ (0 + (tl.take k).length) ≤ 256 ^ 7 := Nat.pow_le_pow_right (by decide) (by omega)
  have hv : (256 : Nat) ^ 7 = 72057594037927936 := by decide
  omega
set_option maxHeartbeats 2000000 in
theorem head_long (R bd off len cap p : Nat) (x i z : Nat) (hiz : (i = 24 ∧ z = 1) ∨ (i = 25 ∧ z = 2) ∨ (i = 26 ∧ z = 4) ∨ (i = 27 ∧ z = 8)) (tl : List UInt8) (w : World) (hr : Rd w R (.slice (some ⟨bd, off, none⟩) len cap) p) (hp : p + 1 + z ≤ len) (hl : len ≤ 1048576) (hlc : len ≤ cap) (hx : x < 256)
    (hc : w.cell? ⟨bd, off + p, none⟩ = some (.int .u8 x)) (hs : x % 32 = i) (htl : tl.length = z) (hb : Bytes w bd (off + (p + 1)) tl) (hRb : bd ≠ R) :
    Calls Tryd.prog 15 #[.pointer (some ⟨R, 0, none⟩)] w fun e w' => e = .returned (.tuple #[.int .u8 ((x / 32 * 32 : Nat) : Int), .int .u64 ((beNat 0 tl : Nat) : Int)]) ∧ Rd w' R (.slice (some ⟨bd, off, none⟩) len cap) (p + 1 + z) ∧ w.grownBy w' (some R) := by
  have c0 := hr.c0
  have c1 := hr.c1
  have f1 := hr.f1
  have HR := hide hr
  have HB := hide hb
  have HA := hide (and224 x hx)
  have HT := hide htl
  have HRb := hide hRb
  clear hr hb htl hRb
  have hm : (x : Int) % 32 = (i : Int) := by omega
  clear hs
  rcases hiz with ⟨rfl, rfl⟩ | ⟨rfl, rfl⟩ | ⟨rfl, rfl⟩ | ⟨rfl, rfl⟩
  all_goals
    go_enter Tryd.func15, Tryd.ntmps15
    go_wp2
    go_quiet (fail)
    go_wp2
    go_quiet (fail)
    go_wp2_with fail
    go_loop [6, 54] (fun g j => ∃ k : Nat, k ≤ tl.length ∧ j = .int .i64 k ∧ g = .int .u64 ((beNat 0 (tl.take k) : Nat) : Int)) (fun _ j => 8 - (intOf j).toNat)
    case atStart => exact ⟨0, Nat.zero_le _, rfl, rfl⟩
    case round =>
      obtain ⟨k, hk, rfl, rfl⟩ := hrel
      have hz := HT.out
      by_cases hlt : k < tl.length
      · have hb56 := be56 tl k (by omega)
        have ck : ∀ (q : Nat) (v : Value), ((w.drewN q).setCell ⟨R, 1, none⟩ v).cell? ⟨bd, off + (p + 1) + k, none⟩ = some (.int .u8 tl[k].toNat) := fun q v => by
          rw [World.cell?_setCell_other _ _ _ _ (by intro e; injection e with e1 _; exact HRb.out e1.symm), World.cell?_drewN]
          exact HB.out k hlt
        have HS : Hid (beNat 0 (tl.take (k + 1)) = beNat 0 (tl.take k) * 256 + tl[k].toNat) := hide (by rw [take_succ' tl k hlt, beNat_snoc])
        have hcl := UInt8.toNat_lt tl[k]
        obtain ⟨y, ey⟩ : ∃ y, y = beNat 0 (tl.take k) := ⟨_, rfl⟩
        obtain ⟨cc, ec⟩ : ∃ cc, cc = tl[k].toNat := ⟨_, rfl⟩
        rw [← ey] at hb56 HS ⊢
        rw [← ec] at hcl HS
        simp only [← ec] at ck
        clear ey ec
        have HOR := hide (or_add y cc hb56 (by omega))
        go_wp2
        go_round
        case rel => exact ⟨k + 1, by omega, by go_num, by rw [HOR.out, HS.out]⟩
        case measure => simp [intOf]; omega
      · have HF : Hid (beNat 0 (tl.take k) = beNat 0 tl) := hide (by rw [List.take_of_length_le (by omega)])
        rw [HF.out]
        have cR : ∀ (q : Nat) (v : Value), ((w.drewN q).setCell ⟨R, 1, none⟩ v).cell? ⟨R, 1, none⟩ = some v := fun q v => World.cell?_setCell_same _ _ _ (HR.out.drewN q).c1
        obtain ⟨y, ey⟩ : ∃ y, y = beNat 0 tl := ⟨_, rfl⟩
        rw [← ey]
        have EY := hide ey
        clear ey HF
        go_wp2
        go_ret2
        refine ⟨ret_head HA.out (by rw [EY.out]), ?_, ?_⟩
        · exact (((HR.out.drewN _).set (p + 1)).drewN _).set _
        · exact grown_trans (grown_drewN (grown_trans (grown_drewN (World.grownBy.refl _ _) _) (grown_setCell _ _ _)) _) (grown_setCell _ _ _)
end Go.Proofs.Qxb6604022aDoor
