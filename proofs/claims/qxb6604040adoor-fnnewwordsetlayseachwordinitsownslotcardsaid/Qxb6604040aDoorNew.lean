import Derived.Test.Qxb6604040aDoorPut
import Derived.Test.Qxb6604040aDoorShelf
import Derived.Deep.RegionWith
import Derived.Deep.DeepCutAuto
namespace Go.Proofs.Qxb6604040aDoor
open Go.RowKit

theorem dom_ascii (s : ByteArray) (h : domB s = true) (j : Nat) (b : UInt8) (hb : s.data.toList[j]? = some b) : b.toNat < 128 := by
  unfold domB at h
  rw [List.all_eq_true] at h
  have := h b (List.mem_of_getElem? hb)
  unfold okc wdB spB at this
  simp at this
  omega

theorem fields_c (s : ByteArray) (w : World) (hs : s.size ≤ 65536) (hd : domB s = true) (htab : Lib.TabIs Tryd.prog w "strings.asciiSpace" .u8 Lib.asciiSpaceTab) :
    Calls Tryd.prog 31 #[.string s] w fun e w' => ∃ g n, Hid (n = (wordsOf s).length) ∧ Hid (∀ i (h : i < (wordsOf s).length), w'.cell? ⟨g, i, none⟩ = some (.string ⟨(wordsOf s)[i].toArray⟩)) ∧
      w.heap.size ≤ g ∧ g < w'.heap.size ∧ Below w.heap.size w w' ∧ e = .returned (.slice (some ⟨g, 0, none⟩) n n) := by
  refine (Tryd.strings_Fields s w (by omega) (dom_ascii s hd) htab).mono ?_
  rintro e w' ⟨rfl, rfl⟩
  refine ⟨w.heap.size, _, hide rfl, hide (fun i h => ?_), Nat.le_refl _, by simp, (Below.refl _ _).alloc (Nat.le_refl _) _, rfl⟩
  rw [World.cell?_alloc_new]
  have h' : i < (Lib.fields s.data.toList).length := h
  simp [h', wordsOf]

/-- The set's keys behind the first k words. -/
def keysF (ws : List (List UInt8)) (k : Nat) : Nat → Nat := fun j => if 1 ≤ j ∧ j ≤ k then wkN ((ws.getD (j - 1) []).take 8) else 0
theorem keysF_zero (ws : List (List UInt8)) : keysF ws 0 = fun _ => 0 := by
  funext j; unfold keysF; rw [if_neg (by omega)]
theorem keysF_step (ws : List (List UInt8)) (k : Nat) (h : k < ws.length) : upd (keysF ws k) (1 + k) (wkN (ws[k].take 8)) = keysF ws (k + 1) := by
  funext j
  unfold upd keysF
  by_cases e : j = 1 + k
  · subst e
    rw [if_pos rfl, if_pos (by omega), show 1 + k - 1 = k from by omega]
    simp [h]
  · rw [if_neg e]
    by_cases h1 : 1 ≤ j ∧ j ≤ k
    · rw [if_pos h1, if_pos (by omega)]
    · rw [if_neg h1, if_neg (by omega)]
theorem keysF_at (ws : List (List UInt8)) (n i : Nat) (hn : n = ws.length) (h : i < ws.length) : keysF ws n (1 + i) = wkN (ws[i].take 8) := by
  unfold keysF
  rw [if_pos (by omega), show 1 + i - 1 = i from by omega]
  simp [h]

set_option maxRecDepth 20000 in
set_option maxHeartbeats 1000000 in
theorem newWordSet_any (s : ByteArray) (w : World) (t : Nat) (hs : s.size ≤ 65536) (hd : domB s = true) (htab : Lib.TabIs Tryd.prog w "strings.asciiSpace" .u8 Lib.asciiSpaceTab) (hn : (wordsOf s).length < 256) (hf : FirstAt (wordsOf s) t) :
    Calls Tryd.prog 23 #[.string s] w fun e w' => ∃ B g n, e = .returned (.pointer (some ⟨B, 0, none⟩)) ∧ n = (wordsOf s).length ∧
      SetAt w' B (.slice (some ⟨g, 0, none⟩) n n) (mulAt t) (slotsTo (mulAt t) (wordsOf s) n) (keysF (wordsOf s) n) ∧ (∀ i (h : i < (wordsOf s).length), w'.cell? ⟨g, i, none⟩ = some (.string ⟨(wordsOf s)[i].toArray⟩)) ∧ Below w.heap.size w w' := by
  have HFI := hide (fields_c s w hs hd htab)
  have HP := hide hn
  have HF := hide hf
  have HWS := hide (fun l (h : l ∈ wordsOf s) => words_size s l h hs)
  clear hn hf htab hd
  go_enter Tryd.func23, Tryd.ntmps23
  go_wp2_with (first
    | (go_at_call 31; refine HFI.out.mono ?_; rintro e w1 ⟨g, n, HN, HC, hg1, hg2, hb, rfl⟩; have hn2 : n < 256 := (by have := HP.out; have := HN.out; omega))
    | (refine wpList_build_c rfl 48 #[(0, .tmp 8)] rfl (Wz (.slice (some ⟨g, 0, none⟩) n n)) ?hf ?_)
    | (refine Great.wpList_boxTo rfl 48 (.tmp 9) rfl (some 10) rfl w1.heap.size rfl (Wz (.slice (some ⟨g, 0, none⟩) n n)) rfl ?_; have HSET := hide (SetAt.new w1 (.slice (some ⟨g, 0, none⟩) n n)); have c0 := HSET.out.c0))
  case hf => exact built48 _ _ _
  go_loopw [23] (fun i wr => ∃ k : Nat, k ≤ n ∧ i = .int .i64 k ∧ Hid (SetAt wr w1.heap.size (.slice (some ⟨g, 0, none⟩) n n) 0 (fun _ => 0) (keysF (wordsOf s) k)) ∧
      Hid (∀ i (h : i < (wordsOf s).length), wr.cell? ⟨g, i, none⟩ = some (.string ⟨(wordsOf s)[i].toArray⟩)) ∧ Below w.heap.size w wr) (fun i _ => n - (intOf i).toNat)
  case atStart =>
    exact ⟨0, Nat.zero_le _, rfl, hide (by rw [keysF_zero]; exact SetAt.new w1 _), hide (fun i h => by rw [World.cell?_alloc_lt _ _ _ hg2]; exact HC.out i h), hb.alloc hb.size _⟩
  case round =>
    obtain ⟨k, hk, rfl, HSET, HCW, hbr⟩ := hrel
    by_cases hlt : k < n
    · have hkl : k < (wordsOf s).length := by have := HN.out; omega
      have c1 := HCW.out k hkl
      have c2 := HSET.out.ck (1 + k) (by omega)
      have f2 := HSET.out.fr (2050 + (1 + k)) (by omega)
      have HNX := hide (HSET.out.setKey (1 + k) (wkN ((wordsOf s)[k].take 8)) (by omega))
      have HST := hide (keysF_step (wordsOf s) k hkl)
      have HL := hide (HWS.out _ (List.getElem_mem hkl))
      obtain ⟨l, el⟩ : ∃ l, l = (wordsOf s)[k] := ⟨_, rfl⟩
      rw [← el] at c1 HNX HST HL
      clear el
      have hk1 : (1 : Int) + (k : Int) < 256 := by omega
      have hk2 : (0 : Int) ≤ 1 + (k : Int) := by omega
      have hk3 : ((1 : Int) + (k : Int)).toNat = 1 + k := by omega
      have hk4 : IntKind.i64.wrap (1 + (k : Int)) = 1 + (k : Int) := by rw [IntKind.wrap_i64]; omega
      go_wp2
      go_region_with (go_at_call 25; refine (wordKey_any _ _ HL.out).mono ?_; rintro e w' ⟨rfl, hw'⟩; replace hw' := hw'.symm; subst hw')
      go_wp2
      go_roundw
      case rel =>
        refine ⟨k + 1, by omega, by go_num, hide ?_, hide (fun i h => ?_), (hbr.setCell (by have := hb.size; show w.heap.size ≤ w1.heap.size; omega) _).drew⟩
        · rw [← HST.out]; exact HNX.out.drewN 1
        · exact (World.cell?_setCell_other wr _ _ _ (fun e => by injection e with e1 _; omega)).trans (HCW.out i h)
      case measure => simp [intOf]; omega
    · obtain rfl : k = n := by omega
      have hgB : g ≠ w1.heap.size := by omega
      have HGB := hide hgB
      have hBB : w.heap.size ≤ w1.heap.size := hb.size
      have c1 := HSET.out.c1
      have f1 := HSET.out.fr 1 (by omega)
      have HK := hide (keysF_at (wordsOf s) k · HN.out)
      clear hg1 hg2 hgB
      go_wp2
      clear c1 f1
      go_loopw [6] (fun i wq => ∃ (j : Nat) (S : Nat → Nat), j ≤ t ∧ i = .int .i64 j ∧ Hid (SetAt wq w1.heap.size (.slice (some ⟨g, 0, none⟩) k k) (mulAt j) S (keysF (wordsOf s) k)) ∧
          Hid (∀ i (h : i < (wordsOf s).length), wq.cell? ⟨g, i, none⟩ = some (.string ⟨(wordsOf s)[i].toArray⟩)) ∧ Below w.heap.size w wq) (fun i _ => t - (intOf i).toNat)
      case atStart =>
        exact ⟨0, _, Nat.zero_le _, rfl, hide (HSET.out.setMul (mulAt 0)), hide (fun i h => (World.cell?_setCell_other wr _ _ _ (fun e => by injection e with e1 _; exact HGB.out e1.symm)).trans (HCW.out i h)), hbr.setCell hBB _⟩
      case round =>
        clear HSET HCW hbr
        obtain ⟨j, S, hj, rfl, HS2, HCW, hbr⟩ := hrel
        have HPL := hide (place_any w1.heap.size g k k (mulAt j) (wordsOf s) S (keysF (wordsOf s) k) wr HN.out.symm hn2 HS2.out HGB.out HCW.out HK.out)
        have ht : t ≤ 65536 := HF.out.1
        have HST := hide (mulAt_step j)
        by_cases hjt : j < t
        · have hp := HF.out.2.2 j hjt
          obtain ⟨m, em⟩ : ∃ m, m = mulAt j := ⟨_, rfl⟩
          rw [← em] at HPL hp HST
          clear em HS2
          go_wp2_with (go_at_call 32; refine HPL.out.mono ?_; rintro e w' ⟨rfl, ⟨S', hset', _⟩, hgrow⟩; have c1 := hset'.c1; have f1 := hset'.fr 1 (by omega); have HS3 := hide hset'; clear hset')
          go_roundw
          case rel =>
            refine ⟨j + 1, S', by omega, by go_num, hide ?_, hide (fun i h => ?_), (hbr.grown hgrow hbr.size (fun q hq => by cases hq; exact hBB)).setCell hBB _⟩
            · rw [HST.out]; exact HS3.out.setMul (mulAt (j + 1))
            · exact (World.cell?_setCell_other w' _ _ _ (fun e => by injection e with e1 _; exact HGB.out e1.symm)).trans (hgrow.cell (HCW.out i h) (by simpa using HGB.out))
          case measure => simp [intOf]; omega
        · obtain rfl : j = t := by omega
          have hp := HF.out.2.1
          obtain ⟨m, em⟩ : ∃ m, m = mulAt j := ⟨_, rfl⟩
          rw [← em] at HPL hp
          have EM := hide em
          clear em HS2 HST
          go_wp2_with (go_at_call 32; refine HPL.out.mono ?_; rintro e w' ⟨rfl, ⟨S', hset', hs'⟩, hgrow⟩; have HS3 := hide hset'; have HS4 := hide (hs' hp); clear hset' hs')
          go_ret
          refine ⟨w1.heap.size, g, k, rfl, HN.out, ?_, fun i h => hgrow.cell (HCW.out i h) (by simpa using HGB.out), hbr.grown hgrow hbr.size (fun q hq => by cases hq; exact hBB)⟩
          have := HS3.out
          rw [HS4.out, ← HN.out, EM.out] at this
          exact this
end Go.Proofs.Qxb6604040aDoor
