import Derived.Test.Qxb6604040aDoorDom
import Derived.Laws.BitsAllLaws
namespace Go.Proofs.Qxb6604040aDoor
open Go.RowKit

def wkN : List UInt8 → Nat
  | [] => 0
  | c :: cs => (wkN cs * 256) ||| (c.toNat ||| 32)
def wkey (s : ByteArray) : Nat := wkN (s.data.toList.take 8)

theorem or32_lt (c : UInt8) : c.toNat ||| 32 < 256 := Nat.or_lt_two_pow (n := 8) (UInt8.toNat_lt c) (by decide)
theorem wkN_lt (l : List UInt8) : wkN l < 2 ^ (8 * l.length) := by
  induction l with
  | nil => simp [wkN]
  | cons c cs ih =>
    simp only [wkN, List.length_cons]
    refine Nat.or_lt_two_pow ?_ ?_
    · rw [show 8 * (cs.length + 1) = 8 * cs.length + 8 from by omega, Nat.pow_add]; omega
    · refine Nat.lt_of_lt_of_le (or32_lt c) ?_
      rw [show 8 * (cs.length + 1) = 8 * cs.length + 8 from by omega, Nat.pow_add]
      have : 0 < 2 ^ (8 * cs.length) := Nat.two_pow_pos _
      omega
theorem wkN_pos (l : List UInt8) (h : l ≠ []) : 0 < wkN l := by
  cases l with
  | nil => exact absurd rfl h
  | cons c cs =>
    simp only [wkN]
    rw [Nat.pos_iff_ne_zero]
    intro e
    rw [Nat.or_eq_zero_iff, Nat.or_eq_zero_iff] at e
    omega
theorem wkN_lt56 (l : List UInt8) (h : l.length ≤ 7) : wkN l < 72057594037927936 :=
  Nat.lt_of_lt_of_le (wkN_lt l) (Nat.le_trans (Nat.pow_le_pow_right (by decide) (show 8 * l.length ≤ 56 by omega)) (by decide))
theorem wkey_lt (s : ByteArray) : wkey s < 18446744073709551616 :=
  Nat.lt_of_lt_of_le (wkN_lt _) (Nat.le_trans (Nat.pow_le_pow_right (by decide) (show 8 * (s.data.toList.take 8).length ≤ 64 by simp; omega)) (by decide))
theorem wkey_pos (s : ByteArray) (h : 0 < s.size) : 0 < wkey s := wkN_pos _ (by
  intro e
  have := congrArg List.length e
  simp at this
  have e2 : s.size = s.data.size := rfl
  rcases this with h | h <;> simp_all)
theorem step_eq (x : Nat) (c : UInt8) (hx : x < 72057594037927936) :
    bits BinOp.or IntKind.u64 ((x : Int) * 256) (IntKind.u64.wrap (bits BinOp.or IntKind.u8 (c.toNat : Int) 32)) = (((x * 256) ||| (c.toNat ||| 32) : Nat) : Int) := by
  have h1 : bits BinOp.or IntKind.u8 (c.toNat : Int) 32 = ((c.toNat ||| 32 : Nat) : Int) := u8_or_nat c.toNat 32 (UInt8.toNat_lt c) (by decide)
  have h2 := or32_lt c
  rw [h1]
  have h3 : IntKind.u64.wrap ((c.toNat ||| 32 : Nat) : Int) = ((c.toNat ||| 32 : Nat) : Int) := by
    rw [IntKind.wrap_u64]; omega
  rw [h3, show (x : Int) * 256 = ((x * 256 : Nat) : Int) from (Int.natCast_mul x 256).symm]
  exact u64_or_nat _ _ (by omega) (by omega)
theorem drop_step (s : ByteArray) (j : Nat) (h : j < s.size) (h8 : j < 8) : (s.data.toList.take 8).drop j = s[j] :: (s.data.toList.take 8).drop (j + 1) := by
  rw [List.drop_eq_getElem_cons (by simp only [List.length_take, Array.length_toList]; have e2 : s.size = s.data.size := rfl; omega)]
  congr 1
  simp
  rfl

set_option maxHeartbeats 400000 in
theorem wordKey_any (s : ByteArray) (w : World) (hs : s.size ≤ maxLen) :
    Calls Tryd.prog 25 #[.string s] w fun e w' => e = .returned (.int .u64 (wkey s)) ∧ w' = w := by
  unfold maxLen at hs
  go_enter Tryd.func25, Tryd.ntmps25
  go_wp2
  all_goals
    go_loop [3, 4] (fun key i => ∃ k : Nat, k ≤ 8 ∧ k ≤ s.size ∧ i = .int .i64 ((k : Int) - 1) ∧ key = .int .u64 (wkN ((s.data.toList.take 8).drop k))) (fun _ i => (intOf i + 1).toNat)
    case atStart =>
      first
        | exact ⟨8, by omega, by omega, by rfl, by rw [List.drop_of_length_le (by simp; omega)]; rfl⟩
        | exact ⟨s.size, by omega, by omega, by rfl, by rw [List.drop_of_length_le (by simp; omega)]; rfl⟩
    case round =>
      obtain ⟨k, hk, hk2, rfl, rfl⟩ := hrel
      by_cases hlt : 0 < k
      · obtain ⟨j, rfl⟩ : ∃ j, k = j + 1 := ⟨k - 1, by omega⟩
        have hx := wkN_lt56 ((s.data.toList.take 8).drop (j + 1)) (by simp; omega)
        have HS : Hid (wkN ((s.data.toList.take 8).drop j) = (wkN ((s.data.toList.take 8).drop (j + 1)) * 256) ||| (s[j].toNat ||| 32)) := by
          rw [drop_step s j (by omega) (by omega)]; rfl
        obtain ⟨x, ex⟩ : ∃ x, x = wkN ((s.data.toList.take 8).drop (j + 1)) := ⟨_, rfl⟩
        rw [← ex] at hx HS ⊢
        clear ex
        go_wp2
        go_round
        case rel => exact ⟨j, by omega, by omega, rfl, by rw [step_eq x _ hx, HS.out]⟩
        case measure => simp [intOf]
      · obtain rfl : k = 0 := by omega
        go_wp2
        go_ret
        exact ⟨rfl, rfl⟩
end Go.Proofs.Qxb6604040aDoor
