import Derived.Test.Qxb6604040aDoorLeaf
namespace Go.Proofs.Qxb6604040aDoor
open Go.RowKit

def okc (c : UInt8) : Bool := wdB c.toNat || spB c.toNat
def domB (s : ByteArray) : Bool := s.data.toList.all okc

theorem take_snoc (s : ByteArray) (k : Nat) (h : k < s.size) : s.data.toList.take (k + 1) = s.data.toList.take k ++ [s[k]] := by
  rw [List.take_succ_eq_append_getElem (by simpa using h)]; rfl

theorem dom_bad (s : ByteArray) (k : Nat) (h : k < s.size) (hb : okc s[k] = false) : domB s = false := by
  unfold domB
  rw [List.all_eq_false]
  exact ⟨s[k], by rw [show s[k] = s.data.toList[k]'(by simpa using h) from rfl]; exact List.getElem_mem _, by simp [hb]⟩

theorem dom_full (s : ByteArray) (k : Nat) (h : s.size ≤ k) (hb : (s.data.toList.take k).all okc = true) : domB s = true := by
  unfold domB
  rwa [List.take_of_length_le (by simpa using h)] at hb

set_option maxHeartbeats 400000 in
theorem listInDomain_any (s : ByteArray) (w : World) (hs : s.size ≤ maxLen) :
    Calls Tryd.prog 20 #[.string s] w fun e w' => e = .returned (.bool (domB s)) ∧ w' = w := by
  unfold maxLen at hs
  go_enter Tryd.func20, Tryd.ntmps20
  go_wp2
  go_loop [3] (fun i => ∃ k : Nat, k ≤ s.size ∧ i = .int .i64 k ∧ (s.data.toList.take k).all okc = true) (fun i => s.size - (intOf i).toNat)
  case atStart => exact ⟨0, Nat.zero_le _, rfl, rfl⟩
  case round =>
    obtain ⟨k, hk, rfl, hall⟩ := hrel
    have HA : Hid ((s.data.toList.take k).all okc = true) := hall
    clear hall
    by_cases hlt : k < s.size
    · have HS : Hid (s.data.toList.take (k + 1) = s.data.toList.take k ++ [s[k]]) := take_snoc s k hlt
      obtain ⟨c, hc⟩ : ∃ c : UInt8, c = s[k] := ⟨_, rfl⟩
      have HC : Hid (c = s[k]) := hc
      by_cases h1 : wdB c.toNat = true
      · rw [hc] at h1; clear hc
        go_wp2_with (first | (go_at_call 28; refine (isWord_any _ _).mono ?_; rintro e w' ⟨rfl, rfl⟩) | (go_at_call 29; refine (isSpace_any _ _).mono ?_; rintro e w' ⟨rfl, rfl⟩))
        go_round
        case rel => exact ⟨k + 1, by omega, by go_num, by rw [HS.out, List.all_append, HA.out]; simp [okc, h1]⟩
        case measure => simp [intOf]; omega
      · by_cases h2 : spB c.toNat = true
        · rw [hc] at h1 h2; clear hc
          have h1' : wdB s[k].toNat = false := by simpa using h1
          clear h1
          go_wp2_with (first | (go_at_call 28; refine (isWord_any _ _).mono ?_; rintro e w' ⟨rfl, rfl⟩) | (go_at_call 29; refine (isSpace_any _ _).mono ?_; rintro e w' ⟨rfl, rfl⟩))
          go_round
          case rel => exact ⟨k + 1, by omega, by go_num, by rw [HS.out, List.all_append, HA.out]; simp [okc, h2]⟩
          case measure => simp [intOf]; omega
        · rw [hc] at h1 h2; clear hc
          have h1' : wdB s[k].toNat = false := by simpa using h1
          have h2' : spB s[k].toNat = false := by simpa using h2
          have hbad := dom_bad s k hlt (by simp [okc, h1', h2'])
          have HB : Hid (domB s = false) := hbad
          clear h1 h2 hbad
          go_wp2_with (first | (go_at_call 28; refine (isWord_any _ _).mono ?_; rintro e w' ⟨rfl, rfl⟩) | (go_at_call 29; refine (isSpace_any _ _).mono ?_; rintro e w' ⟨rfl, rfl⟩))
          go_ret
          exact ⟨ret_bool (by rw [HB.out]), rfl⟩
    · go_wp2
      go_ret
      exact ⟨ret_bool (by rw [dom_full s k (by omega) HA.out]), rfl⟩
end Go.Proofs.Qxb6604040aDoor
