import Derived.Test.Qxb6603925aRows
import Derived.WalkKit
import Derived.WalkSpells
import Derived.WalkLawsBesides
namespace Go.Proofs.Qxb6603925a
open Go.RowKit

theorem hide {p : Prop} (h : p) : Hid p := h
theorem ret_bool {a b : Bool} (h : a = b) : Ending.returned (.bool a) = .returned (.bool b) := by rw [h]
theorem ret_int {k : IntKind} {a b : Int} (h : a = b) : Ending.returned (.int k a) = .returned (.int k b) := by rw [h]

/-- The slice reads as these strings. -/
def Strs (w : World) (b off : Nat) (ss : List ByteArray) : Prop := ∀ i (h : i < ss.length), w.cell? ⟨b, off + i, none⟩ = some (.string ss[i])

/-- The first match: its index, or -1. -/
def fiL : List ByteArray → ByteArray → Nat → Int
  | [], _, _ => -1
  | x :: xs, nm, k => if (x.toList == nm.toList) = true then (k : Int) else fiL xs nm (k + 1)
theorem fiL_at (ss : List ByteArray) (nm : ByteArray) (k : Nat) (h : k < ss.length) : fiL (ss.drop k) nm k = if (ss[k].toList == nm.toList) = true then (k : Int) else fiL (ss.drop (k + 1)) nm (k + 1) := by
  rw [List.drop_eq_getElem_cons h, fiL]
theorem fiL_end (ss : List ByteArray) (nm : ByteArray) (k : Nat) (h : ss.length ≤ k) : fiL (ss.drop k) nm k = -1 := by
  rw [List.drop_of_length_le h, fiL]

set_option maxHeartbeats 400000 in
theorem column_any (b off n c : Nat) (ss : List ByteArray) (nm : ByteArray) (w : World) (hn : n = ss.length) (hn2 : n ≤ 1048576) (hs : Strs w b off ss) :
    Calls Try.prog 8 #[.slice (some ⟨b, off, none⟩) n c, .string nm] w fun e w' => e = .returned (.int .i64 (fiL ss nm 0)) ∧ w' = w := by
  have HN := hide hn
  have HS := hide hs
  clear hn hs
  go_enter Try.func8, Try.ntmps8
  go_wp2
  go_loop [9] (fun i => ∃ k : Nat, k ≤ n ∧ i = .int .i64 k ∧ Hid (fiL ss nm 0 = fiL (ss.drop k) nm k)) (fun i => n - (intOf i).toNat)
  case atStart => exact ⟨0, Nat.zero_le _, rfl, hide rfl⟩
  case round =>
    obtain ⟨k, hk, rfl, HR⟩ := hrel
    by_cases hlt : k < n
    · have hkl : k < ss.length := by have := HN.out; omega
      have c1 := HS.out k hkl
      have HF := hide (fiL_at ss nm k hkl)
      obtain ⟨x, ex⟩ : ∃ x, x = ss[k] := ⟨_, rfl⟩
      rw [← ex] at c1 HF
      clear ex
      by_cases he : (x.toList == nm.toList) = true
      · have HF2 : Hid (fiL ss nm 0 = (k : Int)) := hide (by rw [HR.out, HF.out, if_pos he])
        go_wp2
        go_ret
        exact ⟨ret_int HF2.out.symm, rfl⟩
      · have HF2 : Hid (fiL ss nm 0 = fiL (ss.drop (k + 1)) nm (k + 1)) := hide (by rw [HR.out, HF.out, if_neg he])
        have he' : (x.toList == nm.toList) = false := by simpa using he
        clear he
        go_wp2
        go_round
        case rel => exact ⟨k + 1, by omega, by go_num, HF2⟩
        case measure => simp [intOf]; omega
    · go_wp2
      go_ret
      exact ⟨ret_int (by rw [HR.out, fiL_end ss nm k (by have := HN.out; omega)]), rfl⟩

set_option maxHeartbeats 400000 in
theorem column_zero (a : Option Addr) (c : Nat) (nm : ByteArray) (w : World) :
    Calls Try.prog 8 #[.slice a 0 c, .string nm] w fun e w' => e = .returned (.int .i64 (-1)) ∧ w' = w := by
  go_enter Try.func8, Try.ntmps8
  go_wp2
  refine wp_loop_rounds 1 ?_; rw [rounds_succ]
  go_wp2
  go_ret
  exact ⟨rfl, rfl⟩

set_option maxHeartbeats 400000 in
theorem zzColumn_of (v : Value) (a : Option Addr) (n c : Nat) (nm : ByteArray) (r : Int) (w : World) (hv : v = .slice a n c) (h : Calls Try.prog 8 #[v, .string nm] w fun e w' => e = .returned (.int .i64 r) ∧ w' = w) :
    Calls Try.prog 7 #[v, .string nm] w fun e w' => e = .returned (.int .i64 r) ∧ w' = w := by
  subst hv
  have H := hide h
  clear h
  go_enter Try.func7, Try.ntmps7
  go_wp2_with (go_at_call 8; refine H.out.mono ?_; rintro e w' ⟨rfl, rfl⟩)
  go_ret
  exact ⟨rfl, rfl⟩

/-! ### The two guards -/
def BPost (n m : Nat) (e : Ending) : Prop := ∃ r, e = .returned (.bool r) ∧ (r = true → n ≤ 1048576 ∧ m ≤ 1048576)
theorem BPost.no (n m : Nat) : BPost n m (.returned (.bool false)) := ⟨false, rfl, fun h => by cases h⟩
theorem BPost.yes {n m : Nat} (h1 : n ≤ 1048576) (h2 : m ≤ 1048576) : BPost n m (.returned (.bool true)) := ⟨true, rfl, fun _ => ⟨h1, h2⟩⟩
def IPost (e : Ending) : Prop := ∃ r : Nat, r ≤ 1048577 ∧ e = .returned (.int .i64 r)
theorem IPost.of (t : Nat) (h : t ≤ 1048577) : IPost (.returned (.int .i64 t)) := ⟨t, h, rfl⟩
set_option maxHeartbeats 400000 in
theorem bytes_any (b off n c : Nat) (ss : List ByteArray) (nm : ByteArray) (w : World) (hn : n = ss.length) (hn2 : n ≤ maxLen) (hm : nm.size ≤ maxLen) (hl : ∀ s ∈ ss, s.size ≤ maxLen) (hs : Strs w b off ss) :
    Calls Try.prog 4 #[.slice (some ⟨b, off, none⟩) n c, .string nm] w fun e w' => BPost n nm.size e ∧ w' = w := by
  have HN := hide hn
  have HS := hide hs
  have HL := hide hl
  clear hn hs hl
  unfold maxLen at hn2 hm
  by_cases h1 : n ≤ 1048576
  · go_enter Try.func4, Try.ntmps4
    go_wp2
    go_loop [5, 6] (fun z i => ∃ k t : Nat, k ≤ n ∧ t ≤ 1048576 ∧ i = .int .i64 k ∧ z = .int .i64 t) (fun _ i => n - (intOf i).toNat)
    case atStart => exact ⟨0, n, Nat.zero_le _, h1, rfl, rfl⟩
    case round =>
      obtain ⟨k, t, hk, ht, rfl, rfl⟩ := hrel
      by_cases hlt : k < n
      · have hkl : k < ss.length := by have := HN.out; omega
        have c1 := HS.out k hkl
        have hsz := HL.out _ (List.getElem_mem hkl)
        unfold maxLen at hsz
        obtain ⟨x, ex⟩ : ∃ x, x = ss[k] := ⟨_, rfl⟩
        rw [← ex] at c1 hsz
        clear ex
        by_cases h2 : x.size ≤ 1048576
        · by_cases h3 : t + x.size ≤ 1048576
          · go_wp2
            go_round
            case rel => exact ⟨k + 1, t + x.size, by omega, h3, by go_num, by go_num⟩
            case measure => simp [intOf]; omega
          · go_wp2
            go_ret
            exact ⟨BPost.no _ _, rfl⟩
        · go_wp2
          go_ret
          exact ⟨BPost.no _ _, rfl⟩
      · by_cases h2 : nm.size ≤ 1048576
        · by_cases h3 : t + nm.size ≤ 1048576
          · go_wp2
            go_ret
            exact ⟨BPost.yes h1 h2, rfl⟩
          · go_wp2
            go_ret
            exact ⟨BPost.no _ _, rfl⟩
        · go_wp2
          go_ret
          exact ⟨BPost.no _ _, rfl⟩
  · go_enter Try.func4, Try.ntmps4
    go_wp2
    go_ret
    exact ⟨BPost.no _ _, rfl⟩

set_option maxHeartbeats 400000 in
theorem bytes_zero (a : Option Addr) (c : Nat) (nm : ByteArray) (w : World) (hm : nm.size ≤ maxLen) :
    Calls Try.prog 4 #[.slice a 0 c, .string nm] w fun e w' => BPost 0 nm.size e ∧ w' = w := by
  unfold maxLen at hm
  by_cases h2 : nm.size ≤ 1048576
  · go_enter Try.func4, Try.ntmps4
    go_wp2
    refine wp_loop_rounds 1 ?_; rw [rounds_succ]
    go_wp2
    go_ret
    exact ⟨BPost.yes (Nat.zero_le _) h2, rfl⟩
  · go_enter Try.func4, Try.ntmps4
    go_wp2
    refine wp_loop_rounds 1 ?_; rw [rounds_succ]
    go_wp2
    go_ret
    exact ⟨BPost.no _ _, rfl⟩

set_option maxHeartbeats 400000 in
theorem colBytes_any (b off n c : Nat) (ss : List ByteArray) (w : World) (hn : n = ss.length) (hn2 : n ≤ 1048576) (hl : ∀ s ∈ ss, s.size ≤ maxLen) (hs : Strs w b off ss) :
    Calls Try.prog 5 #[.slice (some ⟨b, off, none⟩) n c] w fun e w' => IPost e ∧ w' = w := by
  have HN := hide hn
  have HS := hide hs
  have HL := hide hl
  clear hn hs hl
  by_cases h1 : n ≤ 65536
  · go_enter Try.func5, Try.ntmps5
    go_wp2
    go_loop [3, 4] (fun z i => ∃ k t : Nat, k ≤ n ∧ t ≤ 1048576 ∧ i = .int .i64 k ∧ z = .int .i64 t) (fun _ i => n - (intOf i).toNat)
    case atStart => exact ⟨0, 16 * n, Nat.zero_le _, by omega, rfl, by go_num⟩
    case round =>
      obtain ⟨k, t, hk, ht, rfl, rfl⟩ := hrel
      by_cases hlt : k < n
      · have hkl : k < ss.length := by have := HN.out; omega
        have c1 := HS.out k hkl
        have hsz := HL.out _ (List.getElem_mem hkl)
        unfold maxLen at hsz
        obtain ⟨x, ex⟩ : ∃ x, x = ss[k] := ⟨_, rfl⟩
        rw [← ex] at c1 hsz
        clear ex
        by_cases h2 : x.size ≤ 1048576
        · by_cases h3 : t + x.size ≤ 1048576
          · go_wp2
            go_round
            case rel => exact ⟨k + 1, t + x.size, by omega, h3, by go_num, by go_num⟩
            case measure => simp [intOf]; omega
          · go_wp2
            go_ret
            exact ⟨IPost.of 1048577 (by omega), rfl⟩
        · go_wp2
          go_ret
          exact ⟨IPost.of 1048577 (by omega), rfl⟩
      · go_wp2
        go_ret
        exact ⟨IPost.of t (by omega), rfl⟩
  · go_enter Try.func5, Try.ntmps5
    go_wp2
    go_ret
    exact ⟨IPost.of 1048577 (by omega), rfl⟩

set_option maxHeartbeats 400000 in
theorem colBytes_zero (a : Option Addr) (c : Nat) (w : World) :
    Calls Try.prog 5 #[.slice a 0 c] w fun e w' => IPost e ∧ w' = w := by
  go_enter Try.func5, Try.ntmps5
  go_wp2
  refine wp_loop_rounds 1 ?_; rw [rounds_succ]
  go_wp2
  go_ret
  exact ⟨IPost.of 0 (by omega), rfl⟩
end Go.Proofs.Qxb6603925a
