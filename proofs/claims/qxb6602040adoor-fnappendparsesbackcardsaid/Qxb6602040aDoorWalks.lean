import Derived.Test.Qxb6602040aDoorOwn
namespace Go.Proofs.Qxb6602040aDoor
open Go.RowKit

theorem take_snoc (s : ByteArray) (k : Nat) (h : k < s.size) : s.data.toList.take (k + 1) = s.data.toList.take k ++ [s[k]] := by
  rw [List.take_succ_eq_append_getElem (by simpa using h)]; rfl
theorem take_succ' (l : List UInt8) (k : Nat) (h : k < l.length) : l.take (k + 1) = l.take k ++ [l[k]] := List.take_succ_eq_append_getElem h

/-- What zzHasSpace says. -/
def HPost (s : ByteArray) (w : World) (e : Ending) (w' : World) : Prop := ∃ r, e = .returned (.bool r) ∧ w' = w ∧ (r = false → ∀ b ∈ s.data.toList, b ≠ 32)
theorem hasSpace_any (s : ByteArray) (w : World) (hs : s.size ≤ maxLen) : Calls Tryd.prog 10 #[.string s] w fun e w' => HPost s w e w' := by
  unfold maxLen at hs
  go_enter Tryd.func10, Tryd.ntmps10
  go_wp2
  go_loop [3] (fun i => ∃ k : Nat, k ≤ s.size ∧ i = .int .i64 k ∧ Hid (∀ b ∈ s.data.toList.take k, b ≠ 32)) (fun i => s.size - (intOf i).toNat)
  case atStart => exact ⟨0, Nat.zero_le _, rfl, hide (by simp)⟩
  case round =>
    obtain ⟨k, hk, rfl, HA⟩ := hrel
    by_cases hlt : k < s.size
    · have HS := hide (take_snoc s k hlt)
      by_cases h1 : s[k].toNat = 32
      · go_wp2
        go_ret
        exact ⟨_, rfl, rfl, fun h => by cases h⟩
      · have h1' : ((s[k].toNat : Int) == 32) = false := by simp; omega
        go_wp2
        go_round
        case rel =>
          refine ⟨k + 1, by omega, by go_num, hide ?_⟩
          rw [HS.out]
          intro b hb
          rcases List.mem_append.1 hb with hb | hb
          · exact HA.out b hb
          · simp only [List.mem_singleton] at hb
            subst hb
            intro e
            rw [e] at h1
            exact h1 rfl
        case measure => simp [intOf]; omega
    · have HF : Hid (s.data.toList.take k = s.data.toList) := hide (List.take_of_length_le (by simpa using (by omega : s.size ≤ k)))
      go_wp2
      go_ret
      exact ⟨_, rfl, rfl, fun _ => by rw [← HF.out]; exact HA.out⟩

theorem fieldEnd_any (b o n c p e : Nat) (l : List UInt8) (w : World) (hn : n = l.length) (hn2 : n ≤ 140737488355328) (hb : Bytes w b o l) (hpe : p ≤ e) (hen : e ≤ n) (hns : ∀ i (h : i < l.length), p ≤ i → i < e → l[i] ≠ 32) (hend : ∀ h : e < l.length, l[e] = 32) :
    Calls Tryd.prog 11 #[.slice (some ⟨b, o, none⟩) n c, .int .i64 p] w fun en w' => en = .returned (.int .i64 e) ∧ w' = w := by
  have HN := hide hn
  have HB := hide hb
  have HS := hide hns
  have HE := hide hend
  clear hn hb hns hend
  go_enter Tryd.func11, Tryd.ntmps11
  go_wp2
  go_loop [1] (fun i => ∃ k : Nat, p ≤ k ∧ k ≤ e ∧ i = .int .i64 k) (fun i => e - (intOf i).toNat)
  case atStart => exact ⟨p, Nat.le_refl _, hpe, rfl⟩
  case round =>
    obtain ⟨k, hk1, hk2, rfl⟩ := hrel
    by_cases hlt : k < e
    · have hkl : k < l.length := by rw [← HN.out]; omega
      have hkn : k < n := by omega
      have ck := HB.out k hkl
      have hc : ¬ l[k].toNat = 32 := fun h => HS.out k hkl hk1 hlt (UInt8.toNat_inj.1 (by rw [h]; rfl))
      obtain ⟨x, ex⟩ : ∃ x, x = l[k].toNat := ⟨_, rfl⟩
      rw [← ex] at ck hc
      clear ex
      go_wp2
      go_round
      case rel => exact ⟨k + 1, by omega, by omega, by go_num⟩
      case measure => simp [intOf]; omega
    · have hke : k = e := by omega
      subst hke
      by_cases hkn : k < n
      · have hkl : k < l.length := by rw [← HN.out]; omega
        have ck := HB.out k hkl
        rw [HE.out hkl] at ck
        have ck' : w.cell? ⟨b, o + k, none⟩ = some (.int .u8 32) := ck
        clear ck
        go_wp2
        go_ret
        exact ⟨rfl, rfl⟩
      · go_wp2
        go_ret
        exact ⟨rfl, rfl⟩

theorem isStr_zero (a : Option Addr) (c : Nat) (s : ByteArray) (w : World) (h : s.size = 0) : Calls Tryd.prog 12 #[.slice a 0 c, .string s] w fun e w' => e = .returned (.bool true) ∧ Below w.heap.size w w' := by
  go_enter Tryd.func12, Tryd.ntmps12
  go_wp2
  refine wp_loop_rounds 1 ?_; rw [rounds_succ]
  go_wp2
  go_ret
  exact ⟨rfl, Below.refl _ _⟩
theorem isStr_some (b o n c : Nat) (s : ByteArray) (w : World) (hn : n = s.size) (hn2 : n ≤ 140737488355328) (hb : Bytes w b o s.data.toList) : Calls Tryd.prog 12 #[.slice (some ⟨b, o, none⟩) n c, .string s] w fun e w' => e = .returned (.bool true) ∧ Below w.heap.size w w' := by
  have HB := hide hb
  clear hb
  go_enter Tryd.func12, Tryd.ntmps12
  go_wp2
  go_loopw [5] (fun i wr => ∃ k : Nat, k ≤ n ∧ i = .int .i64 k ∧ Below w.heap.size w wr) (fun i _ => n - (intOf i).toNat)
  case atStart => exact ⟨0, Nat.zero_le _, rfl, Below.refl _ _⟩
  case round =>
    obtain ⟨k, hk, rfl, hbr⟩ := hrel
    by_cases hlt : k < n
    · have hkl : k < s.data.toList.length := by rw [Array.length_toList]; show k < s.size; omega
      have d1 := HB.out k hkl
      have d1' := (hbr.cell (World.block_lt_of_cell? w _ d1)).trans d1
      have hks : k < s.size := by omega
      have hx : s.data.toList[k] = s[k] := rfl
      rw [hx] at d1'
      clear d1 hx
      go_wp2_with (go_quiet (fail))
      go_roundw
      case rel => exact ⟨k + 1, by omega, by go_num, hbr.trans ⟨rfl, rfl, rfl, Nat.le_refl _, fun _ _ => rfl⟩⟩
      case measure => simp [intOf]; omega
    · go_wp2
      go_ret
      exact ⟨rfl, hbr⟩
end Go.Proofs.Qxb6602040aDoor
