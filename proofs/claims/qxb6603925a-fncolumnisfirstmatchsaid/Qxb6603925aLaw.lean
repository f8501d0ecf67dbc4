import Derived.Test.Qxb6603925aClone
namespace Go.Proofs.Qxb6603925a
open Go.RowKit

def TPost (w : World) (e : Ending) (w' : World) : Prop := e = .returned (.bool true) ∧ Below w.heap.size w w'

set_option maxHeartbeats 1000000 in
theorem law_some (b off n c : Nat) (ss : List ByteArray) (nm : ByteArray) (w : World) (hn : n = ss.length) (hn2 : n ≤ maxLen) (hm : nm.size ≤ maxLen) (hl : ∀ s ∈ ss, s.size ≤ maxLen) (hs : Strs w b off ss) :
    Calls Try.prog 3 #[.slice (some ⟨b, off, none⟩) n c, .string nm] w fun e w' => TPost w e w' := by
  have HB := hide (bytes_any b off n c ss nm w hn hn2 hm hl hs)
  have HCB := hide (fun h => colBytes_any b off n c ss w hn h hl hs)
  have HCL := hide (fun h => clone_any b off n c ss w hn h hs)
  have HN := hide hn
  clear hl hs hn hm hn2
  go_enter Try.func3, Try.ntmps3
  go_wp2_with fail
  refine HB.out.mono ?_
  rintro e w' ⟨⟨r, rfl, hr⟩, hw'⟩
  replace hw' := hw'.symm
  subst hw'
  cases r with
  | false =>
    clear hr
    go_wp2
    go_ret
    exact ⟨rfl, Below.refl _ _⟩
  | true =>
    obtain ⟨h1, h2⟩ := hr rfl
    clear hr
    go_wp2_with fail
    refine (HCB.out h1).mono ?_
    rintro e w' ⟨⟨r, hr, rfl⟩, hw'⟩
    replace hw' := hw'.symm
    subst hw'
    by_cases h3 : r + nm.size ≤ 1048576
    · go_wp2_with fail
      refine (HCL.out h1).mono ?_
      rintro e w2 ⟨g, rfl, hst, hb⟩
      have HST := hide hst
      have HCO := hide (zzColumn_of _ _ _ _ nm _ w2 rfl (column_any g 0 n n ss nm w2 HN.out h1 hst))
      clear hst HB HCB HCL
      go_wp2_with (go_at_call 7; refine HCO.out.mono ?_; rintro e w' ⟨rfl, hw'⟩; replace hw' := hw'.symm; subst hw')
      go_loop [6, 7] (fun z i => ∃ k : Nat, k ≤ n ∧ i = .int .i64 ((k : Int) - 1) ∧ z = .int .i64 (fiL (ss.drop k) nm k)) (fun _ i => (intOf i + 1).toNat)
      case atStart => exact ⟨n, Nat.le_refl _, rfl, by rw [fiL_end ss nm n (by rw [HN.out]; exact Nat.le_refl _)]⟩
      case round =>
        obtain ⟨k, hk, rfl, rfl⟩ := hrel
        by_cases h0 : 0 < k
        · obtain ⟨j, rfl⟩ : ∃ j, k = j + 1 := ⟨k - 1, by omega⟩
          have hjl : j < ss.length := by have := HN.out; omega
          have c1 := HST.out j hjl
          rw [Nat.zero_add] at c1
          have HF := hide (fiL_at ss nm j hjl)
          obtain ⟨x, ex⟩ : ∃ x, x = ss[j] := ⟨_, rfl⟩
          rw [← ex] at c1 HF
          clear ex
          by_cases he : (x.toList == nm.toList) = true
          · have HF2 : Hid (fiL (ss.drop j) nm j = (j : Int)) := hide (by rw [HF.out, if_pos he])
            go_wp2
            go_round
            case rel => exact ⟨j, by omega, rfl, by rw [HF2.out]; go_num⟩
            case measure => simp [intOf]
          · have HF2 : Hid (fiL (ss.drop j) nm j = fiL (ss.drop (j + 1)) nm (j + 1)) := hide (by rw [HF.out, if_neg he])
            have he' : (x.toList == nm.toList) = false := by simpa using he
            clear he
            go_wp2
            go_round
            case rel => exact ⟨j, by omega, rfl, by rw [HF2.out]⟩
            case measure => simp [intOf]
        · obtain rfl : k = 0 := by omega
          go_wp2
          go_ret
          exact ⟨by simp, hb⟩
    · go_wp2
      go_ret
      exact ⟨rfl, Below.refl _ _⟩

set_option maxHeartbeats 1000000 in
theorem law_zero (a : Option Addr) (c : Nat) (nm : ByteArray) (w : World) (hm : nm.size ≤ maxLen) :
    Calls Try.prog 3 #[.slice a 0 c, .string nm] w fun e w' => TPost w e w' := by
  have HB := hide (bytes_zero a c nm w hm)
  clear hm
  go_enter Try.func3, Try.ntmps3
  go_wp2_with fail
  refine HB.out.mono ?_
  rintro e w' ⟨⟨r, rfl, hr⟩, hw'⟩
  replace hw' := hw'.symm
  subst hw'
  cases r with
  | false =>
    clear hr
    go_wp2
    go_ret
    exact ⟨rfl, Below.refl _ _⟩
  | true =>
    obtain ⟨_, h2⟩ := hr rfl
    clear hr
    go_wp2_with fail
    refine (colBytes_zero a c w).mono ?_
    rintro e w' ⟨⟨r, hr, rfl⟩, hw'⟩
    replace hw' := hw'.symm
    subst hw'
    by_cases h3 : r + nm.size ≤ 1048576
    · go_wp2_with fail
      refine (clone_zero a c w).mono ?_
      rintro e w2 ⟨a', c', rfl, hb⟩
      have HCO := hide (zzColumn_of _ _ _ _ nm _ w2 rfl (column_zero a' c' nm w2))
      clear HB
      go_wp2_with (go_at_call 7; refine HCO.out.mono ?_; rintro e w' ⟨rfl, hw'⟩; replace hw' := hw'.symm; subst hw')
      refine wp_loop_rounds 1 ?_; rw [rounds_succ]
      go_wp2
      go_ret
      exact ⟨rfl, hb⟩
    · go_wp2
      go_ret
      exact ⟨rfl, Below.refl _ _⟩
end Go.Proofs.Qxb6603925a
