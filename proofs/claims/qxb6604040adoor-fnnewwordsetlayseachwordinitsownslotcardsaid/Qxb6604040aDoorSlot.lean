import Derived.Test.Qxb6604040aDoorSet
import Derived.Great.Ranges
namespace Go.Proofs.Qxb6604040aDoor
open Go.RowKit

theorem ret_u64 {a : Int} {b : Nat} (h : a = (b : Int)) : Ending.returned (.int .u64 a) = .returned (.int .u64 (b : Int)) := by rw [h]

set_option maxHeartbeats 400000 in
theorem slot_any (B key n mul : Nat) (w : World) (c1 : w.cell? ⟨B, 1, none⟩ = some (.int .u64 mul)) :
    Calls Tryd.prog 27 #[.pointer (some ⟨B, 0, none⟩), .int .u64 key, .int .i64 n] w fun e w' => e = .returned (.int .u64 (slotN key n mul)) ∧ w' = w := by
  go_enter Tryd.func27, Tryd.ntmps27
  go_wp2
  go_ret
  exact ⟨ret_u64 (slot_eq key n mul), rfl⟩

set_option maxHeartbeats 400000 in
theorem zzSlot_any (B key n mul : Nat) (w : World) (c1 : w.cell? ⟨B, 1, none⟩ = some (.int .u64 mul)) :
    Calls Tryd.prog 19 #[.pointer (some ⟨B, 0, none⟩), .int .u64 key, .int .i64 n] w fun e w' => e = .returned (.int .u64 (slotN key n mul)) ∧ w' = w := by
  have HS := hide (slot_any B key n mul w c1)
  clear c1
  go_enter Tryd.func19, Tryd.ntmps19
  go_wp2_with (go_at_call 27; refine HS.out.mono ?_; rintro e w' ⟨rfl, rfl⟩)
  go_ret
  exact ⟨rfl, rfl⟩

/-- The slots behind the first k words. -/
def slotsTo (mul : Nat) (ws : List (List UInt8)) (k : Nat) : Nat → Nat := fun h => if h ∈ hashes mul (ws.take k) then 1 + (hashes mul (ws.take k)).idxOf h else 0
theorem slotsTo_zero (mul : Nat) (ws : List (List UInt8)) : slotsTo mul ws 0 = fun _ => 0 := by funext h; simp [slotsTo, hashes]
theorem hashes_len (mul : Nat) (ws : List (List UInt8)) (k : Nat) (h : k ≤ ws.length) : (hashes mul (ws.take k)).length = k := by simp [hashes]; omega
theorem slotsTo_step (mul : Nat) (ws : List (List UInt8)) (k : Nat) (h : k < ws.length) (hd : hashL mul ws[k] ∉ hashes mul (ws.take k)) :
    upd (slotsTo mul ws k) (hashL mul ws[k]) (1 + k) = slotsTo mul ws (k + 1) := by
  funext x
  unfold upd slotsTo
  rw [hashes_snoc mul ws k h]
  by_cases e : x = hashL mul ws[k]
  · subst e
    rw [if_pos rfl, if_pos (by simp), List.idxOf_append, if_neg hd, hashes_len mul ws k (by omega)]
    simp
  · rw [if_neg e]
    by_cases hx : x ∈ hashes mul (ws.take k)
    · rw [if_pos hx, if_pos (by simp [hx]), List.idxOf_append, if_pos hx]
    · rw [if_neg hx, if_neg (by simp [hx, e])]
theorem slotsTo_in (mul : Nat) (ws : List (List UInt8)) (k x : Nat) (h : x ∈ hashes mul (ws.take k)) : ((slotsTo mul ws k x : Int) == 0) = false := by
  unfold slotsTo; rw [if_pos h]; simp; omega
theorem slotsTo_out (mul : Nat) (ws : List (List UInt8)) (k x : Nat) (h : x ∉ hashes mul (ws.take k)) : slotsTo mul ws k x = 0 := by
  unfold slotsTo; rw [if_neg h]
end Go.Proofs.Qxb6604040aDoor
