import Derived.Test.Qxb6604040aDoorPlain
import Derived.Deep.QuietTactic
import Derived.BigQuiet
namespace Go.Proofs.Qxb6604040aDoor
open Go.RowKit

def keyV (l : List UInt8) : Value := .int .u64 (wkN (l.take 8))

set_option maxHeartbeats 400000 in
theorem placeable_zero (aw ak : Option Addr) (cw ck : Nat) (mul : Nat) (w : World) :
    Calls Tryd.prog 30 #[.slice aw 0 cw, .slice ak 0 ck, .int .u64 mul] w fun e w' => e = .returned (.bool true) ∧ Below w.heap.size w w' := by
  go_enter Tryd.func30, Tryd.ntmps30
  go_wp2_with (refine wpList_alloc_z rfl 53 rfl Zb Tryd.zero53 ?_)
  refine wp_loop_rounds 1 ?_; rw [rounds_succ]
  go_wp2
  go_ret
  exact ⟨rfl, (Below.refl _ _).alloc (Nat.le_refl _) _⟩

set_option maxHeartbeats 400000 in
theorem placeable_some (b1 b2 : Nat) (n cw ck : Nat) (mul : Nat) (ws : List (List UInt8)) (w : World) (hn : ws.length = n) (hn2 : n < 256)
    (hw : ∀ i (h : i < ws.length), w.cell? ⟨b1, i, none⟩ = some (.string ⟨ws[i].toArray⟩)) (hk : ∀ i (h : i < ws.length), w.cell? ⟨b2, i, none⟩ = some (.int .u64 (wkN (ws[i].take 8)))) :
    Calls Tryd.prog 30 #[.slice (some ⟨b1, 0, none⟩) n cw, .slice (some ⟨b2, 0, none⟩) n ck, .int .u64 mul] w fun e w' => e = .returned (.bool (placeB mul ws)) ∧ Below w.heap.size w w' := by
  have HN : Hid (ws.length = n) := hide hn
  clear hn
  go_enter Tryd.func30, Tryd.ntmps30
  go_wp2_with (refine wpList_alloc_z rfl 53 rfl Zb Tryd.zero53 ?_)
  go_loopw [8] (fun i wr => ∃ k : Nat, k ≤ n ∧ i = .int .i64 k ∧ Hid ((hashes mul (ws.take k)).Nodup) ∧ Hid (Marks wr w.heap.size (hashes mul (ws.take k))) ∧ Below w.heap.size w wr) (fun i _ => n - (intOf i).toNat)
  case atStart => exact ⟨0, Nat.zero_le _, rfl, hide (by simp [hashes]), hide (Marks.new w), (Below.refl _ _).alloc (Nat.le_refl _) _⟩
  case round =>
    obtain ⟨k, hkn, rfl, HD, HM, hb⟩ := hrel
    by_cases hlt : k < n
    · have hkl : k < ws.length := by have := HN.out; omega
      have c1 := hw k hkl
      have c2 := hk k hkl
      have HS := hide (hashes_snoc mul ws k hkl)
      have HNo := hide (place_no mul ws k hkl)
      have hh := hashL_lt mul ws[k]
      have hm := HM.out _ hh
      obtain ⟨l, el⟩ : ∃ l, l = ws[k] := ⟨_, rfl⟩
      rw [← el] at c1 c2 HS HNo hh hm
      have EL := hide el
      clear el
      have c1' : wr.cell? ⟨b1, k, none⟩ = some (.string ⟨l.toArray⟩) := (hb.cell (World.block_lt_of_cell? w _ c1)).trans c1
      have c2' : wr.cell? ⟨b2, k, none⟩ = some (.int .u64 (wkN (l.take 8))) := (hb.cell (World.block_lt_of_cell? w _ c2)).trans c2
      clear c1 c2
      by_cases hd : hashL mul l ∈ hashes mul (ws.take k)
      · rw [decide_eq_true hd] at hm
        have HF := hide (HNo.out hd)
        obtain ⟨hm1, hm2⟩ := hm
        obtain ⟨h0, eh⟩ : ∃ h0, h0 = hashL mul l := ⟨_, rfl⟩
        have HH : Hid (slotN (wkN (l.take 8)) l.length mul = h0) := hide eh.symm
        rw [← eh] at hm1 hm2 hh
        clear eh hd HNo HS hw hk
        go_wp2
        go_quiet (fail)
        rw [slot_eq, HH.out]
        go_wp2
        go_ret
        exact ⟨ret_bool HF.out.symm, below_drewN hb _⟩
      · rw [decide_eq_false hd] at hm
        obtain ⟨hm1, hm2⟩ := hm
        have HD2 : Hid ((hashes mul (ws.take (k + 1))).Nodup) := hide (by rw [HS.out, nodup_snoc]; exact ⟨HD.out, hd⟩)
        have HM2 : Hid (Marks (wr.setCell ⟨w.heap.size, hashL mul l, none⟩ (.bool true)) w.heap.size (hashes mul (ws.take (k + 1)))) := hide (by rw [HS.out]; exact HM.out.set _ hh)
        obtain ⟨h0, eh⟩ : ∃ h0, h0 = hashL mul l := ⟨_, rfl⟩
        have HH : Hid (slotN (wkN (l.take 8)) l.length mul = h0) := hide eh.symm
        rw [← eh] at hm1 hm2 hh HM2
        clear eh hd HNo HS
        go_wp2
        go_quiet (fail)
        rw [slot_eq, HH.out]
        go_wp2
        go_roundw
        case rel => exact ⟨k + 1, by omega, by go_num, HD2, HM2, below_drewN (hb.setCell (Nat.le_refl _) _) _⟩
        case measure => simp [intOf]; omega
    · have HF := hide (place_yes mul ws k (by have := HN.out; omega) HD.out)
      clear hw hk
      go_wp2
      go_ret
      exact ⟨ret_bool HF.out.symm, hb⟩
end Go.Proofs.Qxb6604040aDoor
