import Derived.Test.Qxb6604022aDoorOwn
namespace Go.Proofs.Qxb6604022aDoor
open Go.RowKit

theorem app_ret {B : Nat} {w w' : World} {v : Value} {bs t t' : List UInt8} (h : Own B w' v (bs ++ t)) (k : Kept B w w') (e : t = t') : App B w bs t' (.returned v) w' := ⟨v, rfl, by rw [← e]; exact h, k⟩
theorem ret_int {k : IntKind} {a b : Int} (h : a = b) : Ending.returned (.int k a) = .returned (.int k b) := by rw [h]
theorem hexd_toNat (n : Nat) (h : n < 16) : ((hexd n).toNat : Int) = if n < 10 then 48 + (n : Int) else 87 + (n : Int) := by
  unfold hexd
  split
  · rw [UInt8.toNat_ofNat']; omega
  · rw [UInt8.toNat_ofNat']; omega
theorem ne_toNat {c : UInt8} {k : Nat} (h : c ≠ UInt8.ofNat k) : c.toNat ≠ k := by
  intro e
  apply h
  rw [← e]
  simp

set_option maxHeartbeats 400000 in
theorem hexDigit_any (n : Nat) (w : World) (h : n < 16) : Calls Tryd.prog 14 #[.int .u8 n] w fun e w' => e = .returned (.int .u8 (hexd n).toNat) ∧ w' = w := by
  have HX := hide (hexd_toNat n h)
  by_cases h1 : n < 10
  · rw [if_pos h1] at HX
    go_enter Tryd.func14, Tryd.ntmps14
    go_wp2
    go_ret
    exact ⟨ret_int HX.out.symm, rfl⟩
  · rw [if_neg h1] at HX
    go_enter Tryd.func14, Tryd.ntmps14
    go_wp2
    go_ret
    exact ⟨ret_int (by rw [HX.out]; omega), rfl⟩

theorem esc_ctl (c : UInt8) (h34 : c ≠ 34) (h92 : c ≠ 92) (h8 : c ≠ 8) (h12 : c ≠ 12) (h10 : c ≠ 10) (h13 : c ≠ 13) (h9 : c ≠ 9) (h : c.toNat < 32) : esc c = [92, 117, 48, 48, hexd (c.toNat / 16), hexd (c.toNat % 16)] := by
  unfold esc
  rw [if_neg h34, if_neg h92, if_neg h8, if_neg h12, if_neg h10, if_neg h13, if_neg h9, if_pos h]
theorem esc_plain (c : UInt8) (h34 : c ≠ 34) (h92 : c ≠ 92) (h : ¬ c.toNat < 32) : esc c = [c] := by
  unfold esc
  rw [if_neg h34, if_neg h92, if_neg (by intro e; subst e; exact h (by decide)), if_neg (by intro e; subst e; exact h (by decide)), if_neg (by intro e; subst e; exact h (by decide)), if_neg (by intro e; subst e; exact h (by decide)), if_neg (by intro e; subst e; exact h (by decide)), if_neg h]

set_option maxHeartbeats 1000000 in
theorem escB_any (B : Nat) (v : Value) (bs : List UInt8) (c : UInt8) (w : World) (hown : Own B w v bs) (hB : B ≤ w.heap.size) (hlim : bs.length + 6 ≤ 140737488355328) :
    Calls Tryd.prog 12 #[v, .int .u8 c.toNat] w fun e w' => App B w bs (esc c) e w' := by
  obtain ⟨a, n, cp, rfl, _⟩ := hown.shape
  have HO := hide hown
  clear hown
  by_cases h34 : c = 34
  · subst h34
    go_enter Tryd.func12, Tryd.ntmps12
    go_wp2_with (at_builtin; refine wpList_app rfl (.tmp 8) (.tmp 9) rfl B _ bs rfl (HO.out.alloc _) [92, 34] ⟨_, 0, none⟩ 2 2 rfl rfl (lit_cells _ [92, 34] 5) (by simp; omega) (by simp; omega) ?_; intro v1 w1 hown1 hk1)
    go_ret
    exact app_ret hown1 (((Kept.refl _ _).alloc hB _).trans hk1) rfl
  by_cases h92 : c = 92
  · subst h92
    go_enter Tryd.func12, Tryd.ntmps12
    go_wp2_with (at_builtin; refine wpList_app rfl (.tmp 14) (.tmp 15) rfl B _ bs rfl (HO.out.alloc _) [92, 92] ⟨_, 0, none⟩ 2 2 rfl rfl (lit_cells _ [92, 92] 5) (by simp; omega) (by simp; omega) ?_; intro v1 w1 hown1 hk1)
    go_ret
    exact app_ret hown1 (((Kept.refl _ _).alloc hB _).trans hk1) rfl
  by_cases h8 : c = 8
  · subst h8
    go_enter Tryd.func12, Tryd.ntmps12
    go_wp2_with (at_builtin; refine wpList_app rfl (.tmp 20) (.tmp 21) rfl B _ bs rfl (HO.out.alloc _) [92, 98] ⟨_, 0, none⟩ 2 2 rfl rfl (lit_cells _ [92, 98] 5) (by simp; omega) (by simp; omega) ?_; intro v1 w1 hown1 hk1)
    go_ret
    exact app_ret hown1 (((Kept.refl _ _).alloc hB _).trans hk1) rfl
  by_cases h12 : c = 12
  · subst h12
    go_enter Tryd.func12, Tryd.ntmps12
    go_wp2_with (at_builtin; refine wpList_app rfl (.tmp 26) (.tmp 27) rfl B _ bs rfl (HO.out.alloc _) [92, 102] ⟨_, 0, none⟩ 2 2 rfl rfl (lit_cells _ [92, 102] 5) (by simp; omega) (by simp; omega) ?_; intro v1 w1 hown1 hk1)
    go_ret
    exact app_ret hown1 (((Kept.refl _ _).alloc hB _).trans hk1) rfl
  by_cases h10 : c = 10
  · subst h10
    go_enter Tryd.func12, Tryd.ntmps12
    go_wp2_with (at_builtin; refine wpList_app rfl (.tmp 32) (.tmp 33) rfl B _ bs rfl (HO.out.alloc _) [92, 110] ⟨_, 0, none⟩ 2 2 rfl rfl (lit_cells _ [92, 110] 5) (by simp; omega) (by simp; omega) ?_; intro v1 w1 hown1 hk1)
    go_ret
    exact app_ret hown1 (((Kept.refl _ _).alloc hB _).trans hk1) rfl
  by_cases h13 : c = 13
  · subst h13
    go_enter Tryd.func12, Tryd.ntmps12
    go_wp2_with (at_builtin; refine wpList_app rfl (.tmp 38) (.tmp 39) rfl B _ bs rfl (HO.out.alloc _) [92, 114] ⟨_, 0, none⟩ 2 2 rfl rfl (lit_cells _ [92, 114] 5) (by simp; omega) (by simp; omega) ?_; intro v1 w1 hown1 hk1)
    go_ret
    exact app_ret hown1 (((Kept.refl _ _).alloc hB _).trans hk1) rfl
  by_cases h9 : c = 9
  · subst h9
    go_enter Tryd.func12, Tryd.ntmps12
    go_wp2_with (at_builtin; refine wpList_app rfl (.tmp 44) (.tmp 45) rfl B _ bs rfl (HO.out.alloc _) [92, 116] ⟨_, 0, none⟩ 2 2 rfl rfl (lit_cells _ [92, 116] 5) (by simp; omega) (by simp; omega) ?_; intro v1 w1 hown1 hk1)
    go_ret
    exact app_ret hown1 (((Kept.refl _ _).alloc hB _).trans hk1) rfl
  have hc := UInt8.toNat_lt c
  have n34 := ne_toNat (k := 34) h34
  have n92 := ne_toNat (k := 92) h92
  have n8 := ne_toNat (k := 8) h8
  have n12 := ne_toNat (k := 12) h12
  have n10 := ne_toNat (k := 10) h10
  have n13 := ne_toNat (k := 13) h13
  have n9 := ne_toNat (k := 9) h9
  by_cases h32 : c.toNat < 32
  · have HE := hide (esc_ctl c h34 h92 h8 h12 h10 h13 h9 h32)
    clear h34 h92 h8 h12 h10 h13 h9
    obtain ⟨m, em⟩ : ∃ m, m = c.toNat := ⟨_, rfl⟩
    rw [← em] at n34 n92 n8 n12 n10 n13 n9 h32 hc HE ⊢
    clear em
    have hm1 : m / 16 < 16 := by omega
    have hm2 : m % 16 < 16 := by omega
    go_enter Tryd.func12, Tryd.ntmps12
    go_wp2_with fail
    refine (hexDigit_any (m / 16) w hm1).mono ?_
    rintro e w' ⟨rfl, hw'⟩
    replace hw' := hw'.symm
    subst hw'
    go_wp2_with fail
    refine (hexDigit_any (m % 16) w hm2).mono ?_
    rintro e w' ⟨rfl, hw'⟩
    replace hw' := hw'.symm
    subst hw'
    obtain ⟨x1, ex1⟩ : ∃ x, x = hexd (m / 16) := ⟨_, rfl⟩
    obtain ⟨x2, ex2⟩ : ∃ x, x = hexd (m % 16) := ⟨_, rfl⟩
    rw [← ex1, ← ex2] at HE
    rw [← ex1, ← ex2]
    clear ex1 ex2
    go_wp2_with (at_builtin; refine wpList_app rfl (.tmp 50) (.tmp 57) rfl B _ bs rfl (HO.out.alloc _) [92, 117, 48, 48, x1, x2] ⟨_, 0, none⟩ 6 6 rfl rfl (lit_cells _ [92, 117, 48, 48, x1, x2] 5) (by simp; omega) (by simp; omega) ?_; intro v1 w1 hown1 hk1)
    go_ret
    exact app_ret hown1 (((Kept.refl _ _).alloc hB _).trans hk1) HE.out.symm
  · have HE := hide (esc_plain c h34 h92 h32)
    clear h34 h92 h8 h12 h10 h13 h9
    go_enter Tryd.func12, Tryd.ntmps12
    go_wp2_with (at_builtin; refine wpList_app rfl (.tmp 59) (.tmp 61) rfl B _ bs rfl (HO.out.alloc _) [c] ⟨_, 0, none⟩ 1 1 rfl rfl (lit_cells _ [c] 5) (by simp; omega) (by simp; omega) ?_; intro v1 w1 hown1 hk1)
    go_ret
    exact app_ret hown1 (((Kept.refl _ _).alloc hB _).trans hk1) HE.out.symm
end Go.Proofs.Qxb6604022aDoor
