import Derived.Test.Qxb6602040aDoorWalks
import Derived.Deep.CutBlock
namespace Go.Proofs.Qxb6602040aDoor
open Go.RowKit

theorem Bytes.append_left {w : World} {b o : Nat} {l m : List UInt8} (h : Bytes w b o (l ++ m)) : Bytes w b o l := fun i hi => by
  rw [h i (by simp; omega), List.getElem_append_left hi]

theorem hasPrefix_any (b o n c : Nat) (s : ByteArray) (x : List UInt8) (w : World) (hn : n = s.size + x.length) (hnc : n ≤ c) (hn2 : n ≤ 140737488355328) (hs0 : 0 < s.size) (hb : Bytes w b o (s.data.toList ++ x)) :
    Calls Tryd.prog 13 #[.slice (some ⟨b, o, none⟩) n c, .string s] w fun e w' => e = .returned (.bool true) ∧ Below w.heap.size w w' := by
  have HC := hide (isStr_some b o s.size c s w rfl (by omega) hb.append_left)
  clear hb
  go_enter Tryd.func13, Tryd.ntmps13
  go_wp2_with (go_at_call 12; refine HC.out.mono ?_; rintro e w' ⟨rfl, hb⟩)
  go_ret
  exact ⟨rfl, hb⟩

/-- The number that the digits say. -/
def val (l : List UInt8) : Nat := l.foldl (fun a c => a * 10 + (c.toNat - 48)) 0
theorem foldl_ge (l : List UInt8) : ∀ x : Nat, x ≤ l.foldl (fun a c => a * 10 + (c.toNat - 48)) x := by
  induction l with
  | nil => intro x; exact Nat.le_refl _
  | cons c l ih => intro x; rw [List.foldl_cons]; exact Nat.le_trans (by omega) (ih _)
theorem val_snoc (l : List UInt8) (c : UInt8) : val (l ++ [c]) = val l * 10 + (c.toNat - 48) := by simp [val]
theorem val_take_le (l : List UInt8) (k : Nat) : val (l.take k) ≤ val l := by
  have : val l = (l.drop k).foldl (fun a c => a * 10 + (c.toNat - 48)) (val (l.take k)) := by
    unfold val
    rw [← List.foldl_append, List.take_append_drop]
  rw [this]
  exact foldl_ge _ _
theorem dig_toNat (d : Nat) (h : d < 10) : (UInt8.ofNat (48 + d)).toNat = 48 + d := by rw [UInt8.toNat_ofNat']; omega
theorem val_dec (u : Nat) : val (Lib.decDigits u) = u := by
  induction u using Nat.strongRecOn with
  | _ u ih =>
    rw [Lib.decDigits]
    split
    · rename_i h
      show 0 * 10 + ((UInt8.ofNat (48 + u)).toNat - 48) = u
      rw [dig_toNat u h]; omega
    · rw [val_snoc, ih (u / 10) (by omega), dig_toNat _ (by omega)]; omega
theorem dec_digit (u : Nat) : ∀ c ∈ Lib.decDigits u, 48 ≤ c.toNat ∧ c.toNat ≤ 57 := by
  induction u using Nat.strongRecOn with
  | _ u ih =>
    rw [Lib.decDigits]
    split
    · rename_i h
      intro c hc
      simp only [List.mem_singleton] at hc
      rw [hc, dig_toNat u h]; omega
    · intro c hc
      rcases List.mem_append.1 hc with hc | hc
      · exact ih (u / 10) (by omega) c hc
      · simp only [List.mem_singleton] at hc
        rw [hc, dig_toNat _ (by omega)]; omega
theorem dec_pos (u : Nat) : 1 ≤ (Lib.decDigits u).length := by
  rw [Lib.decDigits]; split <;> simp

def PPost (v : Int) (w : World) (e : Ending) (w' : World) : Prop := e = .returned (.tuple #[.int .i64 v, .bool true]) ∧ w' = w
theorem ret_pair {a b : Int} (h : a = b) : Ending.returned (.tuple #[.int .i64 a, .bool true]) = .returned (.tuple #[.int .i64 b, .bool true]) := by rw [h]

/-- k digits read; sh: the sign's byte. -/
def PRel (l : List UInt8) (sh n : Nat) (w : World) (gk : Nat) (i a : Value) (wr : World) : Prop := ∃ k : Nat, k ≤ n ∧ i = .int .i64 ((k + sh : Nat) : Int) ∧ a = .int .u64 ((val (l.take k) : Nat) : Int) ∧ wr = w ∧ gk = n - k

set_option maxHeartbeats 1000000 in
theorem parse_pos (b o n c u : Nat) (w : World) (hn : n = (Lib.decDigits u).length) (hn2 : n ≤ 140737488355328) (hu : u ≤ 9223372036854775807) (hb : Bytes w b o (Lib.decDigits u)) :
    Calls Tryd.prog 14 #[.slice (some ⟨b, o, none⟩) n c] w fun e w' => PPost (u : Int) w e w' := by
  have hp := dec_pos u
  have hv := val_dec u
  have hd := dec_digit u
  obtain ⟨l, el⟩ : ∃ l, l = Lib.decDigits u := ⟨_, rfl⟩
  rw [← el] at hn hb hp hv hd
  clear el
  have HN := hide hn
  have HB := hide hb
  have HV := hide hv
  have HD := hide hd
  have h0 : 0 < n := by omega
  have c0 := hb 0 (by omega)
  have d0 := hd l[0] (List.getElem_mem _)
  obtain ⟨x0, ex0⟩ : ∃ x, x = l[0].toNat := ⟨_, rfl⟩
  rw [← ex0] at c0 d0
  have e0 : ((x0 : Int) == 45) = false := by simp; omega
  have c0' : w.cell? ⟨b, o, none⟩ = some (.int .u8 x0) := c0
  clear hn hb hv hd ex0 c0 hp
  have n0 : ((n : Int) == 0) = false := by simp; omega
  go_enter Tryd.func14, Tryd.ntmps14
  go_wp2_with fail
  go_loopg [5, 6] n (fun gk i a wr => PRel l 0 n w gk i a wr)
  case atStart => exact ⟨0, Nat.zero_le _, rfl, rfl, rfl, rfl⟩
  case round =>
    obtain ⟨k, hk, rfl, rfl, rfl, rfl⟩ := hrel
    rw [Nat.add_zero]
    by_cases hlt : k < n
    · have hkl : k < l.length := by rw [← HN.out]; exact hlt
      have ck := HB.out k hkl
      have dk := HD.out l[k] (List.getElem_mem hkl)
      have hle := val_take_le l (k + 1)
      rw [HV.out, take_succ' l k hkl, val_snoc] at hle
      have HS : Hid (val (l.take (k + 1)) = val (l.take k) * 10 + (l[k].toNat - 48)) := hide (by rw [take_succ' l k hkl, val_snoc])
      obtain ⟨y, ey⟩ : ∃ y, y = val (l.take k) := ⟨_, rfl⟩
      obtain ⟨x, ex⟩ : ∃ x, x = l[k].toNat := ⟨_, rfl⟩
      rw [← ey] at hle HS ⊢
      rw [← ex] at ck dk hle HS
      clear ey ex
      go_wp2
      go_roundg (n - (k + 1))
      case rel => exact ⟨k + 1, by omega, by go_num, by rw [HS.out]; congr 1; omega, rfl, rfl⟩
      case measure => omega
    · have HF : Hid (val (l.take k) = u) := hide (by rw [List.take_of_length_le (by rw [← HN.out]; omega)]; exact HV.out)
      rw [HF.out]
      go_wp2
      go_ret2
      exact ⟨rfl, rfl⟩

set_option maxHeartbeats 1000000 in
theorem parse_neg (b o n c u : Nat) (w : World) (hn : n = (Lib.decDigits u).length + 1) (hn2 : n ≤ 140737488355328) (hu1 : 1 ≤ u) (hu : u ≤ 9223372036854775808) (hb : Bytes w b o (45 :: Lib.decDigits u)) :
    Calls Tryd.prog 14 #[.slice (some ⟨b, o, none⟩) n c] w fun e w' => PPost (-(u : Int)) w e w' := by
  have hp := dec_pos u
  have hv := val_dec u
  have hd := dec_digit u
  obtain ⟨l, el⟩ : ∃ l, l = Lib.decDigits u := ⟨_, rfl⟩
  rw [← el] at hn hb hp hv hd
  clear el
  have HN := hide hn
  have HB := hide hb
  have HV := hide hv
  have HD := hide hd
  have h0 : 1 < n := by omega
  have c0 : w.cell? ⟨b, o, none⟩ = some (.int .u8 45) := hb 0 (by simp)
  clear hn hb hv hd hp
  have n0 : ((n : Int) == 0) = false := by simp; omega
  have n1 : ((n : Int) == 1) = false := by simp; omega
  go_enter Tryd.func14, Tryd.ntmps14
  go_wp2_with fail
  go_loopg [5, 6] (n - 1) (fun gk i a wr => PRel l 1 (n - 1) w gk i a wr)
  case atStart => exact ⟨0, Nat.zero_le _, rfl, rfl, rfl, rfl⟩
  case round =>
    obtain ⟨k, hk, rfl, rfl, rfl, rfl⟩ := hrel
    by_cases hlt : k + 1 < n
    · have hkl : k < l.length := by have := HN.out; omega
      have ck := HB.out (k + 1) (by simp; omega)
      rw [List.getElem_cons_succ] at ck
      have dk := HD.out l[k] (List.getElem_mem hkl)
      have hle := val_take_le l (k + 1)
      rw [HV.out, take_succ' l k hkl, val_snoc] at hle
      have HS : Hid (val (l.take (k + 1)) = val (l.take k) * 10 + (l[k].toNat - 48)) := hide (by rw [take_succ' l k hkl, val_snoc])
      obtain ⟨y, ey⟩ : ∃ y, y = val (l.take k) := ⟨_, rfl⟩
      obtain ⟨x, ex⟩ : ∃ x, x = l[k].toNat := ⟨_, rfl⟩
      rw [← ey] at hle HS ⊢
      rw [← ex] at ck dk hle HS
      clear ey ex
      obtain ⟨j, ej⟩ : ∃ j, j = k + 1 := ⟨_, rfl⟩
      rw [← ej] at ck hlt HS ⊢
      have HJ := hide ej
      clear ej
      go_wp2
      go_roundg (n - 1 - j)
      case rel => exact ⟨j, by omega, by go_num, by rw [HS.out]; congr 1; omega, rfl, rfl⟩
      case measure => have := HJ.out; omega
    · have HF : Hid (val (l.take k) = u) := hide (by rw [List.take_of_length_le (by have := HN.out; omega)]; exact HV.out)
      rw [HF.out]
      have hw1 : IntKind.u64.wrap (-(u : Int)) = 18446744073709551616 - (u : Int) := by rw [IntKind.wrap_u64]; omega
      have hw2 : IntKind.i64.wrap (18446744073709551616 - (u : Int)) = -(u : Int) := by rw [IntKind.wrap_i64]; omega
      obtain ⟨j, ej⟩ : ∃ j, j = k + 1 := ⟨_, rfl⟩
      rw [← ej] at hlt ⊢
      clear ej
      go_wp2
      go_ret2
      exact ⟨rfl, rfl⟩

/-- zzParseDec READS BACK WHAT AppendInt WRITES. -/
theorem parse_any (b o n c : Nat) (v : Int) (w : World) (hn : n = (Lib.itoa v).length) (hn2 : n ≤ 140737488355328) (h0 : -9223372036854775808 ≤ v) (h1 : v ≤ 9223372036854775807) (hb : Bytes w b o (Lib.itoa v)) :
    Calls Tryd.prog 14 #[.slice (some ⟨b, o, none⟩) n c] w fun e w' => PPost v w e w' := by
  unfold Lib.itoa at hn hb
  by_cases hv : v < 0
  · rw [if_pos hv] at hn hb
    have := parse_neg b o n c v.natAbs w (by simpa using hn) hn2 (by omega) (by omega) hb
    rwa [show -((v.natAbs : Nat) : Int) = v from by omega] at this
  · rw [if_neg hv] at hn hb
    have := parse_pos b o n c v.toNat w hn hn2 (by omega) hb
    rwa [show ((v.toNat : Nat) : Int) = v from by omega] at this
end Go.Proofs.Qxb6602040aDoor
