import Derived.Test.Qxb6604040aDoorSlot
namespace Go.Proofs.Qxb6604040aDoor
open Go.RowKit

theorem grown_setCell (w : World) (a : Addr) (v : Value) : w.grownBy (w.setCell a v) (some a.block) :=
  ⟨rfl, rfl, rfl, by simp, fun k _ hk => heap_setCell_other w a k v (fun e => hk (by simp [e]))⟩
theorem grown_setCells (b : Nat) : ∀ (vs : List Value) (o : Nat) (w : World), w.grownBy (w.setCells b o vs) (some b)
  | [], _, w => World.grownBy.refl w _
  | v :: r, o, w => by
    rw [World.setCells]
    have h1 := grown_setCell w ⟨b, o, none⟩ v
    have h2 := grown_setCells b r (o + 1) (w.setCell ⟨b, o, none⟩ v)
    exact ⟨h2.os.trans h1.os, h2.tape.trans h1.tape, h2.output.trans h1.output, Nat.le_trans h1.size h2.size, fun k hk hne => (h2.block k (Nat.lt_of_lt_of_le hk h1.size) hne).trans (h1.block k hk hne)⟩
theorem grown_trans {a b c : World} {row : Option Nat} (h1 : a.grownBy b row) (h2 : b.grownBy c row) : a.grownBy c row :=
  ⟨h2.os.trans h1.os, h2.tape.trans h1.tape, h2.output.trans h1.output, Nat.le_trans h1.size h2.size, fun k hk hne => (h2.block k (Nat.lt_of_lt_of_le hk h1.size) hne).trans (h1.block k hk hne)⟩
theorem Z8_one : Z8.all (·.oneCell') = true := by
  rw [Array.all_eq_true_iff_forall_mem]
  intro v hv
  unfold Z8 at hv
  rw [Array.mem_replicate] at hv
  rw [hv.2]; rfl
theorem Tryd.size38 : (Tryd.prog.info? 38).map (·.size) = some Z8.size := by kernel_rfl

set_option maxRecDepth 20000 in
set_option maxHeartbeats 400000 in
theorem place_any (B g n cap mul : Nat) (ws : List (List UInt8)) (S K : Nat → Nat) (w : World) (hn : ws.length = n) (hn2 : n < 256) (hset : SetAt w B (.slice (some ⟨g, 0, none⟩) n cap) mul S K) (hgB : g ≠ B)
    (hw : ∀ i (h : i < ws.length), w.cell? ⟨g, i, none⟩ = some (.string ⟨ws[i].toArray⟩)) (hK : ∀ i (h : i < ws.length), K (1 + i) = wkN (ws[i].take 8)) :
    Calls Tryd.prog 32 #[.pointer (some ⟨B, 0, none⟩)] w fun e w' => e = .returned (.bool (placeB mul ws)) ∧
      (∃ S', SetAt w' B (.slice (some ⟨g, 0, none⟩) n cap) mul S' K ∧ (placeB mul ws = true → S' = slotsTo mul ws ws.length)) ∧ w.grownBy w' (some B) := by
  have HN := hide hn
  have HSET := hide hset.wipe
  have HTH := hide hset.there
  have HKK := hide hK
  have HWW := hide hw
  have HGB := hide hgB
  clear hn hset hK hw hgB
  have c0 : (w.setCells B 2 Z8.toList).cell? ⟨B, 0, none⟩ = some (.slice (some ⟨g, 0, none⟩) n cap) := HSET.out.c0
  go_enter Tryd.func32, Tryd.ntmps32
  go_wp2_with (first | (refine wpList_build_c rfl 38 #[] rfl Z8 (by simpa using built38) ?_) | (refine wpList_store_mid rfl 38 (.tmp 9) (.tmp 7) rfl B 2 Z8 rfl rfl ?ht ?hi ?h1 ?_))


  case ht => exact HTH.out
  case hi => exact Tryd.size38
  case h1 => exact Z8_one
  clear c0
  go_loopw [15] (fun i wr => ∃ k : Nat, k ≤ n ∧ i = .int .i64 k ∧ Hid ((hashes mul (ws.take k)).Nodup) ∧ Hid (SetAt wr B (.slice (some ⟨g, 0, none⟩) n cap) mul (slotsTo mul ws k) K) ∧ w.grownBy wr (some B)) (fun i _ => n - (intOf i).toNat)
  case atStart => exact ⟨0, Nat.zero_le _, rfl, hide (by simp [hashes]), hide (by rw [slotsTo_zero]; exact HSET.out), grown_setCells _ _ _ _⟩
  case round =>
    obtain ⟨k, hkn, rfl, HD, HM, hb⟩ := hrel
    by_cases hlt : k < n
    · have hkl : k < ws.length := by have := HN.out; omega
      have c1 : wr.cell? ⟨g, k, none⟩ = some (.string ⟨ws[k].toArray⟩) := hb.cell (HWW.out k hkl) (by simpa using HGB.out)
      have c2 : wr.cell? ⟨B, 2050 + (1 + k), none⟩ = some (.int .u64 (wkN (ws[k].take 8))) := by rw [HM.out.ck (1 + k) (by omega), HKK.out k hkl]
      have hh := hashL_lt mul ws[k]
      have c3 := HM.out.cs _ hh
      have f3 := HM.out.fr (2 + hashL mul ws[k]) (by omega)
      have HSL := hide (slot_any B (wkN (ws[k].take 8)) ws[k].length mul wr HM.out.c1)
      have HNo := hide (place_no mul ws k hkl)
      have HST := hide (slotsTo_step mul ws k hkl)
      have HPS := hide (hashes_snoc mul ws k hkl)
      have HNX := hide (HM.out.setSlot (hashL mul ws[k]) (1 + k) hh)
      have HIN := hide (slotsTo_in mul ws k (hashL mul ws[k]))
      have HOUT := hide (slotsTo_out mul ws k (hashL mul ws[k]))
      obtain ⟨l, el⟩ : ∃ l, l = ws[k] := ⟨_, rfl⟩
      rw [← el] at c1 c2 hh c3 f3 HSL HNo HST HPS HNX HIN HOUT
      have EH : Hid (slotN (wkN (l.take 8)) l.length mul = hashL mul l) := hide rfl
      obtain ⟨h0, eh⟩ : ∃ h0, h0 = hashL mul l := ⟨_, rfl⟩
      rw [EH.out] at HSL
      rw [← eh] at hh c3 f3 HSL HNo HST HPS HNX HIN HOUT
      clear eh EH
      clear el
      by_cases hd : h0 ∈ hashes mul (ws.take k)
      · have hz := HIN.out hd
        have HF := hide (HNo.out hd)
        clear hd HIN HOUT HNX HPS HST HNo
        go_wp2_with (go_at_call 27; refine HSL.out.mono ?_; rintro e w' ⟨rfl, hw'⟩; replace hw' := hw'.symm; subst hw')
        go_ret
        exact ⟨ret_bool HF.out.symm, ⟨_, HM.out, fun h => by rw [HF.out] at h; cases h⟩, hb⟩
      · have hz := HOUT.out hd
        rw [hz] at c3
        have HD2 : Hid ((hashes mul (ws.take (k + 1))).Nodup) := hide (by rw [HPS.out, nodup_snoc]; exact ⟨HD.out, hd⟩)
        have HM2 : Hid (SetAt (wr.setCell ⟨B, 2 + h0, none⟩ (.int .u8 ((1 + k : Nat) : Int))) B (.slice (some ⟨g, 0, none⟩) n cap) mul (slotsTo mul ws (k + 1)) K) := hide (by rw [← HST.out hd]; exact HNX.out)
        clear hz hd HIN HOUT HNX HPS HST HNo
        go_wp2_with (go_at_call 27; refine HSL.out.mono ?_; rintro e w' ⟨rfl, hw'⟩; replace hw' := hw'.symm; subst hw')
        go_roundw
        case rel => exact ⟨k + 1, by omega, by go_num, HD2, HM2, grown_trans hb (grown_setCell _ _ _)⟩
        case measure => simp [intOf]; omega
    · have HF := hide (place_yes mul ws k (by have := HN.out; omega) HD.out)
      obtain rfl : k = n := by omega
      go_wp2
      go_ret
      exact ⟨ret_bool HF.out.symm, ⟨_, HM.out, fun _ => by rw [HN.out]⟩, hb⟩
end Go.Proofs.Qxb6604040aDoor
