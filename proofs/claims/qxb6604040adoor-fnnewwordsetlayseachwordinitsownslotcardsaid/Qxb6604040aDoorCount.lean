import Derived.Test.Qxb6604040aDoorGet
import Derived.Lib.AppendIntMem
namespace Go.Proofs.Qxb6604040aDoor
open Go.RowKit

/-- How many of the first h slots are taken. -/
def cnt (S : Nat → Nat) (h : Nat) : Nat := (List.range h).countP fun x => decide (S x ≠ 0)
theorem cnt_zero (S : Nat → Nat) : cnt S 0 = 0 := rfl
theorem cnt_succ (S : Nat → Nat) (h : Nat) : cnt S (h + 1) = cnt S h + if S h = 0 then 0 else 1 := by
  unfold cnt
  rw [List.range_succ, List.countP_append]
  by_cases e : S h = 0 <;> simp [e]
theorem cnt_le (S : Nat → Nat) (h : Nat) : cnt S h ≤ h := by
  unfold cnt
  have := List.countP_le_length (p := fun x => decide (S x ≠ 0)) (l := List.range h)
  simpa using this
theorem count_mem : ∀ (l : List Nat) (N : Nat), l.Nodup → (∀ x ∈ l, x < N) → (List.range N).countP (fun x => decide (x ∈ l)) = l.length
  | [], N, _, _ => by simp
  | a :: l, N, hn, hl => by
    rw [List.nodup_cons] at hn
    have ih := count_mem l N hn.2 (fun x hx => hl x (List.mem_cons_of_mem _ hx))
    have ha : a < N := hl a (by simp)
    have h1 : (List.range N).countP (fun x => decide (x = a)) = 1 := by
      have := List.count_range (a := a) (n := N)
      rw [if_pos ha] at this
      rw [← this, List.count_eq_countP]
      congr 1
    have h2 : ∀ L : List Nat, L.countP (fun x => decide (x ∈ a :: l)) = L.countP (fun x => decide (x = a)) + L.countP (fun x => decide (x ∈ l)) := by
      intro L
      induction L with
      | nil => simp
      | cons b L ihL =>
        simp only [List.countP_cons, ihL]
        by_cases e1 : b = a
        · subst e1; simp [hn.1]; omega
        · by_cases e2 : b ∈ l
          · simp [e1, e2]; omega
          · simp [e1, e2]
    rw [h2, h1, ih, List.length_cons]
    omega
theorem cnt_full (mul : Nat) (ws : List (List UInt8)) (n : Nat) (hn : n = ws.length) (h : placeB mul ws = true) : cnt (slotsTo mul ws n) 2048 = n := by
  have hd : (hashes mul ws).Nodup := by simpa [placeB] using h
  have e : ws.take n = ws := by rw [hn, List.take_length]
  have := count_mem (hashes mul ws) 2048 hd (fun x hx => by unfold hashes at hx; rw [List.mem_map] at hx; obtain ⟨l, _, rfl⟩ := hx; exact hashL_lt _ _)
  unfold cnt
  rw [show (hashes mul ws).length = n from by rw [hn]; simp [hashes]] at this
  have hf : (fun x => decide (slotsTo mul ws n x ≠ 0)) = fun x => decide (x ∈ hashes mul ws) := by
    funext x
    rw [Bool.eq_iff_iff]
    unfold slotsTo
    rw [e]
    by_cases hx : x ∈ hashes mul ws <;> simp [hx]
  rw [hf]
  exact this
theorem slots_at (mul : Nat) (ws : List (List UInt8)) (n i : Nat) (hn : n = ws.length) (h : placeB mul ws = true) (hi : i < ws.length) : slotsTo mul ws n (hashL mul ws[i]) = 1 + i := by
  have hd : (hashes mul ws).Nodup := by simpa [placeB] using h
  have e : ws.take n = ws := by rw [hn, List.take_length]
  unfold slotsTo
  rw [e]
  have hm : hashL mul ws[i] ∈ hashes mul ws := List.mem_map_of_mem (List.getElem_mem hi)
  rw [if_pos hm]
  have hl : i < (hashes mul ws).length := by simpa [hashes] using hi
  have e2 : (hashes mul ws)[i] = hashL mul ws[i] := by simp [hashes]
  rw [← e2, hd.idxOf_getElem]
end Go.Proofs.Qxb6604040aDoor
