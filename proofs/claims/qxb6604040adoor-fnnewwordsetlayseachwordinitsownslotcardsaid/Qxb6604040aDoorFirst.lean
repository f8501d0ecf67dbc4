import Derived.Test.Qxb6604040aDoorPlace
import Derived.Deep.DeepFit
import Derived.Deep.DeepMust
namespace Go.Proofs.Qxb6604040aDoor
open Go.RowKit

theorem RowIs.len {w : World} {v : Value} {xs : List Value} (h : RowIs w v xs) : ∃ a n c, v = .slice a n c ∧ Hid (n = xs.length) := by
  obtain ⟨a, c, e, _⟩ := h; exact ⟨a, _, c, e, hide rfl⟩

theorem placeable_c (vw vk : Value) (mul : Nat) (ws : List (List UInt8)) (w : World) (hn2 : ws.length < 256) (hw : RowIs w vw (ws.map bs)) (hk : RowIs w vk (ws.map keyV)) :
    Calls Tryd.prog 30 #[vw, vk, .int .u64 mul] w fun e w' => e = .returned (.bool (placeB mul ws)) ∧ Below w.heap.size w w' := by
  obtain ⟨aw, cw, rfl, hw⟩ := hw
  obtain ⟨ak, ck, rfl, hk⟩ := hk
  simp only [List.length_map] at *
  by_cases h0 : 0 < ws.length
  · obtain ⟨b1, rfl, hw1⟩ := hw h0
    obtain ⟨b2, rfl, hk1⟩ := hk h0
    exact placeable_some b1 b2 ws.length cw ck mul ws w rfl hn2 (fun i h => hw1 i _ (by simp [h, bs])) (fun i h => hk1 i _ (by simp [h, keyV]))
  · have : ws = [] := by cases ws with | nil => rfl | cons a b => simp at h0
    subst this
    exact placeable_zero aw ak cw ck mul w

def mulAt : Nat → Nat
  | 0 => 11400714819323198485
  | t + 1 => (mulAt t + 7146057691288625178) % 18446744073709551616
theorem mulAt_lt (t : Nat) : mulAt t < 18446744073709551616 := by
  cases t with
  | zero => decide
  | succ t => exact Nat.mod_lt _ (by decide)
theorem mulAt_odd (t : Nat) : mulAt t % 2 = 1 := by
  induction t with
  | zero => decide
  | succ t ih => unfold mulAt; omega
theorem mulAt_step (t : Nat) : IntKind.u64.wrap ((mulAt t : Int) + 7146057691288625178) = ((mulAt (t + 1) : Nat) : Int) := by
  rw [IntKind.wrap_u64]
  show _ = (((mulAt t + 7146057691288625178) % 18446744073709551616 : Nat) : Int)
  omega
theorem ret_mul {a b : Nat} (h : a = b) : Ending.returned (.tuple #[.int .u64 (a : Int), .bool true]) = .returned (.tuple #[.int .u64 (b : Int), .bool true]) := by rw [h]
/-- The first multiplier that places every word is the t-th. -/
def FirstAt (ws : List (List UInt8)) (t : Nat) : Prop := t ≤ 65536 ∧ placeB (mulAt t) ws = true ∧ ∀ t', t' < t → placeB (mulAt t') ws = false

set_option maxHeartbeats 400000 in
theorem firstMul_any (vw vk : Value) (ws : List (List UInt8)) (w : World) (hn2 : ws.length < 256) (hw : RowIs w vw (ws.map bs)) (hk : RowIs w vk (ws.map keyV)) :
    Calls Tryd.prog 22 #[vw, vk] w fun e w' => (e = .returned (.tuple #[.int .u64 0, .bool false]) ∨ ∃ t, FirstAt ws t ∧ e = .returned (.tuple #[.int .u64 (mulAt t), .bool true])) ∧ Below w.heap.size w w' := by
  obtain ⟨aw, nw, cw, ew, _⟩ := hw.len
  obtain ⟨ak, nk, ck, ek, _⟩ := hk.len
  have HW := hide hw
  have HK := hide hk
  clear hw hk
  subst ew ek
  go_enter Tryd.func22, Tryd.ntmps22
  go_wp2
  go_loopw [6, 7] (fun m i wr => ∃ t : Nat, t ≤ 65537 ∧ i = .int .i64 t ∧ m = .int .u64 (mulAt t) ∧ Hid (∀ t', t' < t → placeB (mulAt t') ws = false) ∧ Below w.heap.size w wr) (fun _ i _ => 65537 - (intOf i).toNat)
  case atStart => exact ⟨0, Nat.zero_le _, rfl, rfl, hide (fun t' h => absurd h (Nat.not_lt_zero _)), Below.refl _ _⟩
  case round =>
    obtain ⟨t, ht, rfl, rfl, HT, hb⟩ := hrel
    by_cases hlt : t ≤ 65536
    · have HC := hide (placeable_c _ _ (mulAt t) ws wr hn2 (HW.out.below hb) (HK.out.below hb))
      have HST := hide (mulAt_step t)
      by_cases hp : placeB (mulAt t) ws = true
      · have HF : Hid (FirstAt ws t) := hide ⟨hlt, hp, HT.out⟩
        obtain ⟨m, em⟩ : ∃ m, m = mulAt t := ⟨_, rfl⟩
        rw [← em] at HC hp ⊢
        have EM := hide em
        clear em HST
        go_wp2_with (go_at_call 30; refine HC.out.mono ?_; rintro e w' ⟨rfl, hb2⟩)
        go_ret2
        exact ⟨.inr ⟨t, HF.out, ret_mul EM.out⟩, hb.trans (hb2.mono hb.size)⟩
      · have hp' : placeB (mulAt t) ws = false := by simpa using hp
        clear hp
        have HT2 : Hid (∀ t', t' < t + 1 → placeB (mulAt t') ws = false) := hide (fun t' h => by
          rcases Nat.lt_or_eq_of_le (Nat.le_of_lt_succ h) with h | h
          · exact HT.out t' h
          · subst h; exact hp')
        obtain ⟨m, em⟩ : ∃ m, m = mulAt t := ⟨_, rfl⟩
        rw [← em] at HC hp' HST ⊢
        clear em
        go_wp2_with (go_at_call 30; refine HC.out.mono ?_; rintro e w' ⟨rfl, hb2⟩)
        go_roundw
        case rel => exact ⟨t + 1, by omega, by go_num, by rw [HST.out], HT2, hb.trans (hb2.mono hb.size)⟩
        case measure => simp [intOf]; omega
    · go_wp2
      go_ret2
      exact ⟨.inl rfl, hb⟩
end Go.Proofs.Qxb6604040aDoor
