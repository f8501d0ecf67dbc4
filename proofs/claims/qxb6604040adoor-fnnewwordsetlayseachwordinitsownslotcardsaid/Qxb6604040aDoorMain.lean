import Derived.Test.Qxb6604040aDoorLaw
namespace Go.Proofs.Qxb6604040aDoor
open Go.RowKit

/-- The two shapes of the premise's rows. -/
theorem prem_shape {s : ByteArray} {w : World} {vw vk : Value} {t : Nat} (h : PremYes s w vw vk t) :
    ((wordsOf s).length = 0 ∧ ∃ aw cw ak ck, vw = .slice aw 0 cw ∧ vk = .slice ak 0 ck) ∨
    ∃ b1 b2 n cw ck, n = (wordsOf s).length ∧ vw = .slice (some ⟨b1, 0, none⟩) n cw ∧ vk = .slice (some ⟨b2, 0, none⟩) n ck ∧
      (∀ i (h : i < (wordsOf s).length), w.cell? ⟨b1, i, none⟩ = some (.string ⟨(wordsOf s)[i].toArray⟩)) ∧
      (∀ i (h : i < (wordsOf s).length), w.cell? ⟨b2, i, none⟩ = some (.int .u64 (wkN ((wordsOf s)[i].take 8)))) := by
  obtain ⟨aw, cw, ew, hw⟩ := h.words
  obtain ⟨ak, ck, ek, hk⟩ := h.keys
  simp only [List.length_map] at ew ek hw hk
  by_cases h0 : 0 < (wordsOf s).length
  · obtain ⟨b1, e1, hw1⟩ := hw h0
    obtain ⟨b2, e2, hk1⟩ := hk h0
    exact .inr ⟨b1, b2, _, cw, ck, rfl, by rw [ew, e1], by rw [ek, e2], fun i h => hw1 i _ (by simp [h, bs]), fun i h => hk1 i _ (by simp [h, keyV])⟩
  · have hz : (wordsOf s).length = 0 := by omega
    rw [hz] at ew ek
    exact .inl ⟨hz, aw, cw, ak, ck, ew, ek⟩

theorem odd_and (m : Nat) (h : m % 2 = 1) (hl : m < 18446744073709551616) : bits BinOp.and IntKind.u64 (m : Int) 1 = 1 := by
  have := u64_and_nat m 1 hl (by decide)
  rw [show ((1 : Nat) : Int) = 1 from rfl] at this
  rw [this, Nat.and_one_is_mod, h]
  rfl

theorem bdrew {B : Nat} {a w : World} (h : Below B a w) (n : Nat) : Below B a (w.drewN n) := h.trans ⟨rfl, rfl, rfl, Nat.le_refl _, fun _ _ => rfl⟩
theorem karr_size (K : Nat → Nat) : (karr K).toArray.size = 256 := List.size_toArray.trans (karr_len K)
theorem sarr_size (S : Nat → Nat) : (sarr S).toArray.size = 2048 := List.size_toArray.trans (sarr_len S)
theorem there_k (w : World) (K : Nat → Nat) : (w.alloc (.cells Z64 36)).there w.heap.size 0 (karr K).toArray.size := there_new w Z64 36 _ (Z64_size.trans (karr_size K).symm)
theorem there_s (w : World) (S : Nat → Nat) : (w.alloc (.cells Z8 38)).there w.heap.size 0 (sarr S).toArray.size := there_new w Z8 38 _ (Z8_size.trans (sarr_size S).symm)
theorem size_k (K : Nat → Nat) : (Tryd.prog.info? 36).map (·.size) = some (karr K).toArray.size := by rw [karr_size]; exact Tryd.size36
theorem size_s (S : Nat → Nat) : (Tryd.prog.info? 38).map (·.size) = some (sarr S).toArray.size := by rw [sarr_size]; exact Tryd.size38'
theorem cells_k (w : World) (K : Nat → Nat) (j : Nat) (hj : j < 256) : ((w.alloc (.cells Z64 36)).setCells w.heap.size 0 (karr K)).cell? ⟨w.heap.size, j, none⟩ = some (.int .u64 (K j)) := by
  have := World.rangeAt_setCells_same (w.alloc (.cells Z64 36)) w.heap.size 0 (karr K) (there_new w Z64 36 _ (Z64_size.trans (karr_len K).symm)) j _ (karr_at _ j hj)
  rwa [Nat.zero_add] at this
theorem cells_s (w : World) (S : Nat → Nat) (j : Nat) (hj : j < 2048) : ((w.alloc (.cells Z8 38)).setCells w.heap.size 0 (sarr S)).cell? ⟨w.heap.size, j, none⟩ = some (.int .u8 (S j)) := by
  have := World.rangeAt_setCells_same (w.alloc (.cells Z8 38)) w.heap.size 0 (sarr S) (there_new w Z8 38 _ (Z8_size.trans (sarr_len S).symm)) j _ (sarr_at _ j hj)
  rwa [Nat.zero_add] at this

set_option maxRecDepth 20000 in
set_option maxHeartbeats 2000000 in
theorem law_some (s : ByteArray) (w : World) (hs : s.size ≤ 65536) (htab : Lib.TabIs Tryd.prog w "strings.asciiSpace" .u8 Lib.asciiSpaceTab) :
    Calls Tryd.prog 5 #[.string s] w fun e w' => e = .returned (.bool true) ∧ Below w.heap.size w w' := by
  have HZ := hide (zzBytes_any s w (by unfold maxLen; omega))
  rw [decide_eq_true (show s.size ≤ 1048576 by omega)] at HZ
  have HP := hide (prem_any s w hs)
  have HT := hide (Lib.tabBelow_of_tabIs htab)
  clear htab
  go_enter Tryd.func5, Tryd.ntmps5
  go_wp2_with (go_at_call 14; refine HZ.out.mono ?_; rintro e w' ⟨rfl, hw'⟩; replace hw' := hw'.symm; subst hw')
  refine HP.out.mono ?_
  rintro e w2 ⟨hres, hb2⟩
  rcases hres with rfl | ⟨vw, vk, t, hy, rfl⟩
  · go_wp2
    go_ret
    exact ⟨rfl, hb2⟩
  · have HTN := hide (zzNew_any s w2 t hs hy.dom (HT.out w2 hb2) hy.few hy.first)
    have HPL := hide hy.first.2.1
    have HODD := hide (odd_and (mulAt t) (mulAt_odd t) (mulAt_lt t))
    have hfew := hy.few
    obtain ⟨mm, em⟩ : ∃ mm, mm = mulAt t := ⟨_, rfl⟩
    rw [← em] at HTN HPL HODD ⊢
    clear em
    clear hs HZ HP HT
    rcases prem_shape hy with ⟨h0, aw, cw, ak, ck, rfl, rfl⟩ | ⟨b1, b2, n, cw, ck, hn, rfl, rfl, hcw, hck⟩
    · have HFEW := hide h0
      clear hfew hy h0
      go_wp2_with fail
      refine HTN.out.mono ?_
      rintro e w3 ⟨B, g, n', rfl, hn', hset, hcg, hb3⟩
      obtain rfl : n' = 0 := hn'.trans HFEW.out
      have HSET := hide hset
      have c0 := hset.c0
      have c1 := hset.c1
      have HGW := hide (getWords_any B _ w3 c0)
      have HGM := hide (getMul_any B mm w3 c1)
      have HGK := hide (getKeys_any B _ w3 hset.krange)
      have HBW : Hid (Below w.heap.size w w3) := hide (hb2.trans (hb3.mono hb2.size))
      have hodd := HODD.out
      clear hset hcg c0 c1 hn' HTN hb3 hb2 HODD
      go_wp2_with (go_at_call 15; refine HGW.out.mono ?_; rintro e w' ⟨rfl, hw'⟩; replace hw' := hw'.symm; subst hw')
      refine wp_loop_rounds 1 ?_; rw [rounds_succ]
      go_wp2_with (first
        | (go_at_call 16; refine HGM.out.mono ?_; rintro e w' ⟨rfl, hw'⟩; replace hw' := hw'.symm; subst hw')
        | (go_at_call 17; refine HGK.out.mono ?_; rintro e w4 ⟨rfl, hb4⟩)
        | (refine wpList_alloc_z rfl 36 rfl Z64 Tryd.zero36 ?_)
        | (refine wpList_store_mid rfl 36 (.tmp 11) (.tmp 69) rfl w4.heap.size 0 (karr (keysF (wordsOf s) 0)).toArray rfl rfl ?ht ?hi2 ?h1 ?_))
      case ht => exact there_k w4 _
      case hi2 => exact size_k _
      case h1 => exact karr_one _
      go_loopw [12] (fun i wr => ∃ k : Nat, k ≤ 256 ∧ i = .int .i64 k ∧ Hid (Below w3.heap.size w3 wr) ∧ Hid (∀ j, j < 256 → wr.cell? ⟨w4.heap.size, j, none⟩ = some (.int .u64 ((0 : Nat) : Int)))) (fun i _ => 256 - (intOf i).toNat)
      case atStart =>
        refine ⟨0, Nat.zero_le _, rfl, hide (below_setCells (hb4.alloc hb4.size _) _ hb4.size (by have := hb4.size; simp; omega) _ _), hide (fun j hj => ?_)⟩
        rw [cells_k w4 _ j hj, keysF_zero]
      case round =>
        clear hb4 HGM HGK hodd
        obtain ⟨k2, hk2, rfl, HB5, HKC⟩ := hrel
        by_cases hl2 : k2 < 256
        · have cK := HKC.out k2 hl2
          by_cases hk0 : k2 = 0
          · subst hk0
            go_wp2
            go_roundw
            case rel => exact ⟨1, by omega, by go_num, HB5, HKC⟩
            case measure => simp [intOf]
          · have hge : 1 ≤ k2 := by omega
            clear hk0
            go_wp2
            go_roundw
            case rel => exact ⟨k2 + 1, by omega, by go_num, HB5, HKC⟩
            case measure => simp [intOf]; omega
        · clear HKC
          have HGS := hide (getSlots_any B _ wr (HSET.out.below HB5.out).srange)
          go_wp2_with (first
            | (go_at_call 18; refine HGS.out.mono ?_; rintro e w6 ⟨rfl, hb6⟩)
            | (refine wpList_alloc_z rfl 38 rfl Z8 Tryd.zero38 ?_)
            | (refine wpList_store_mid rfl 38 (.tmp 14) (.tmp 95) rfl w6.heap.size 0 (sarr (slotsTo mm (wordsOf s) 0)).toArray rfl rfl ?ht2 ?hi3 ?h2 ?_))
          case ht2 => exact there_s w6 _
          case hi3 => exact size_s _
          case h2 => exact sarr_one _
          have hb6' : Below w3.heap.size w3 w6 := HB5.out.trans (hb6.mono HB5.out.size)
          go_loopw [15, 16] (fun u i wr => ∃ k : Nat, k ≤ 2048 ∧ i = .int .i64 k ∧ u = .int .i64 0 ∧ Hid (Below w3.heap.size w3 wr) ∧ Hid (∀ j, j < 2048 → wr.cell? ⟨w6.heap.size, j, none⟩ = some (.int .u8 ((0 : Nat) : Int)))) (fun _ i _ => 2048 - (intOf i).toNat)
          case atStart =>
            refine ⟨0, Nat.zero_le _, rfl, rfl, hide (below_setCells (hb6'.alloc hb6'.size _) _ hb6'.size (by have := hb6'.size; simp; omega) _ _), hide (fun j hj => ?_)⟩
            rw [cells_s w6 _ j hj, slotsTo_zero]
          case round =>
            clear hb6 HGS hb6' HB5
            obtain ⟨k3, hk3, rfl, rfl, HB7, HSC⟩ := hrel
            by_cases hl3 : k3 < 2048
            · have cS := HSC.out k3 hl3
              go_wp2
              go_roundw
              case rel => exact ⟨k3 + 1, by omega, by go_num, rfl, HB7, HSC⟩
              case measure => simp [intOf]; omega
            · go_wp2
              refine wp_loop_rounds 1 ?_; rw [rounds_succ]
              go_wp2
              go_ret
              exact ⟨rfl, HBW.out.trans (HB7.out.mono HBW.out.size)⟩
    · have HN := hide hn
      have hn2 : n < 256 := by omega
      have HCW := hide hcw
      have HCK := hide hck
      clear hn hfew hcw hck hy
      go_wp2_with fail
      refine HTN.out.mono ?_
      rintro e w3 ⟨B, g, n', rfl, hn', hset, hcg, hb3⟩
      obtain rfl : n' = n := hn'.trans HN.out.symm
      have HSET := hide hset
      have HCG := hide hcg
      have c0 := hset.c0
      have HGW := hide (getWords_any B _ w3 c0)
      have HB3 := hide hb3
      clear hset hcg c0 hn' HTN hb3
      go_wp2_with (go_at_call 15; refine HGW.out.mono ?_; rintro e w' ⟨rfl, hw'⟩; replace hw' := hw'.symm; subst hw')
      have HC1 : Hid (∀ i (h : i < (wordsOf s).length), w3.cell? ⟨b1, i, none⟩ = some (.string ⟨(wordsOf s)[i].toArray⟩)) := hide (fun i h => by
        have := HCW.out i h; rw [HB3.out.cell (World.block_lt_of_cell? w2 _ this)]; exact this)
      have HC2 : Hid (∀ i (h : i < (wordsOf s).length), w3.cell? ⟨b2, i, none⟩ = some (.int .u64 (wkN ((wordsOf s)[i].take 8)))) := hide (fun i h => by
        have := HCK.out i h; rw [HB3.out.cell (World.block_lt_of_cell? w2 _ this)]; exact this)
      have HBW : Hid (Below w.heap.size w w3) := hide (hb2.trans (HB3.out.mono hb2.size))
      clear HCW HCK HB3 hb2
      go_loopw [9] (fun i wr => ∃ k q : Nat, k ≤ n' ∧ i = .int .i64 k ∧ wr = w3.drewN q) (fun i _ => n' - (intOf i).toNat)
      case atStart => exact ⟨0, 0, Nat.zero_le _, rfl, rfl⟩
      case round =>
        obtain ⟨k, q, hk, rfl, rfl⟩ := hrel
        by_cases hlt : k < n'
        · have hkl : k < (wordsOf s).length := by have := HN.out; omega
          have c1 := HC1.out k hkl
          have c2 := HCG.out k hkl
          obtain ⟨l, el⟩ : ∃ l, l = (wordsOf s)[k] := ⟨_, rfl⟩
          rw [← el] at c1 c2
          clear el
          go_wp2
          go_quiet (fail)
          go_wp2
          go_roundw
          case rel => exact ⟨k + 1, _, by omega, by go_num, rfl⟩
          case measure => simp [intOf]; omega
        · have c1 := HSET.out.c1
          have HGM := hide (getMul_any B mm (w3.drewN q) c1)
          have HGK := hide (getKeys_any B _ (w3.drewN q) (HSET.out.drewN q).krange)
          have hodd := HODD.out
          clear c1 HGW HCG HODD
          go_wp2_with (first
            | (go_at_call 16; refine HGM.out.mono ?_; rintro e w' ⟨rfl, hw'⟩; replace hw' := hw'.symm; subst hw')
            | (go_at_call 17; refine HGK.out.mono ?_; rintro e w4 ⟨rfl, hb4⟩)
            | (refine wpList_alloc_z rfl 36 rfl Z64 Tryd.zero36 ?_)
            | (refine wpList_store_mid rfl 36 (.tmp 11) (.tmp 69) rfl w4.heap.size 0 (karr (keysF (wordsOf s) n')).toArray rfl rfl ?ht ?hi2 ?h1 ?_))
          case ht => exact there_k w4 _
          case hi2 => exact size_k _
          case h1 => exact karr_one _
          go_loopw [12] (fun i wr => ∃ k : Nat, k ≤ 256 ∧ i = .int .i64 k ∧ Hid (Below w3.heap.size w3 wr) ∧ Hid (∀ j, j < 256 → wr.cell? ⟨w4.heap.size, j, none⟩ = some (.int .u64 (keysF (wordsOf s) n' j)))) (fun i _ => 256 - (intOf i).toNat)
          case atStart =>
            have hb4' : Below w3.heap.size w3 w4 := (bdrew (Below.refl _ _) q).trans hb4
            refine ⟨0, Nat.zero_le _, rfl, hide (below_setCells (hb4'.alloc hb4'.size _) _ hb4'.size (by have := hb4'.size; simp; omega) _ _), hide (fun j hj => cells_k w4 _ j hj)⟩
          case round =>
            clear hb4 HGM HGK hodd
            obtain ⟨k2, hk2, rfl, HB5, HKC⟩ := hrel
            by_cases hl2 : k2 < 256
            · have cK := HKC.out k2 hl2
              by_cases hin : 1 ≤ k2 ∧ k2 ≤ n'
              · obtain ⟨j, rfl⟩ : ∃ j, k2 = j + 1 := ⟨k2 - 1, by omega⟩
                have hjl : j < (wordsOf s).length := by have := HN.out; omega
                have cB := HC2.out j hjl
                have cB' := (HB5.out.cell (World.block_lt_of_cell? w3 _ cB)).trans cB
                rw [show j + 1 = 1 + j from by omega, keysF_at (wordsOf s) n' j HN.out hjl, show 1 + j = j + 1 from by omega] at cK
                have hpos : 0 < wkN ((wordsOf s)[j].take 8) := wkN_pos _ (by
                  have := (words_mem s _ (List.getElem_mem hjl)).1
                  intro e; rw [List.take_eq_nil_iff] at e; rcases e with e | e
                  · omega
                  · exact this e)
                obtain ⟨x, ex⟩ : ∃ x, x = wkN ((wordsOf s)[j].take 8) := ⟨_, rfl⟩
                rw [← ex] at cK cB' hpos
                clear cB ex hin
                have hle : j + 1 ≤ n' := by have := HN.out; omega
                go_wp2
                go_roundw
                case rel => exact ⟨j + 2, by omega, by go_num, HB5, HKC⟩
                case measure => simp [intOf]; omega
              · have hz : keysF (wordsOf s) n' k2 = 0 := by unfold keysF; rw [if_neg hin]
                rw [hz] at cK
                clear hz
                by_cases hk0 : k2 = 0
                · subst hk0
                  clear hin
                  go_wp2
                  go_roundw
                  case rel => exact ⟨1, by omega, by go_num, HB5, HKC⟩
                  case measure => simp [intOf]
                · have hgt : n' < k2 := by omega
                  have hge : 1 ≤ k2 := by omega
                  clear hin hk0
                  go_wp2
                  go_roundw
                  case rel => exact ⟨k2 + 1, by omega, by go_num, HB5, HKC⟩
                  case measure => simp [intOf]; omega
            · clear HKC
              have HGS := hide (getSlots_any B _ wr (HSET.out.below HB5.out).srange)
              go_wp2_with (first
                | (go_at_call 18; refine HGS.out.mono ?_; rintro e w6 ⟨rfl, hb6⟩)
                | (refine wpList_alloc_z rfl 38 rfl Z8 Tryd.zero38 ?_)
                | (refine wpList_store_mid rfl 38 (.tmp 14) (.tmp 95) rfl w6.heap.size 0 (sarr (slotsTo mm (wordsOf s) n')).toArray rfl rfl ?ht2 ?hi3 ?h2 ?_))
              case ht2 => exact there_s w6 _
              case hi3 => exact size_s _
              case h2 => exact sarr_one _
              have hb6' : Below w3.heap.size w3 w6 := HB5.out.trans (hb6.mono HB5.out.size)
              go_loopw [15, 16] (fun u i wr => ∃ k : Nat, k ≤ 2048 ∧ i = .int .i64 k ∧ u = .int .i64 (cnt (slotsTo mm (wordsOf s) n') k) ∧ Hid (Below w3.heap.size w3 wr) ∧ Hid (∀ j, j < 2048 → wr.cell? ⟨w6.heap.size, j, none⟩ = some (.int .u8 (slotsTo mm (wordsOf s) n' j)))) (fun _ i _ => 2048 - (intOf i).toNat)
              case atStart =>
                exact ⟨0, Nat.zero_le _, rfl, rfl, hide (below_setCells (hb6'.alloc hb6'.size _) _ hb6'.size (by have := hb6'.size; simp; omega) _ _), hide (fun j hj => cells_s w6 _ j hj)⟩
              case round =>
                clear hb6 HGS hb6' HB5
                obtain ⟨k3, hk3, rfl, rfl, HB7, HSC⟩ := hrel
                have hcl := cnt_le (slotsTo mm (wordsOf s) n') k3
                by_cases hl3 : k3 < 2048
                · have cS := HSC.out k3 hl3
                  have HCS := hide (cnt_succ (slotsTo mm (wordsOf s) n') k3)
                  obtain ⟨y, ey⟩ : ∃ y, y = slotsTo mm (wordsOf s) n' k3 := ⟨_, rfl⟩
                  obtain ⟨cc, ec⟩ : ∃ cc, cc = cnt (slotsTo mm (wordsOf s) n') k3 := ⟨_, rfl⟩
                  rw [← ey] at cS HCS
                  rw [← ec] at HCS hcl ⊢
                  clear ey ec
                  by_cases hy0 : y = 0
                  · subst hy0
                    go_wp2
                    go_roundw
                    case rel => exact ⟨k3 + 1, by omega, by go_num, by rw [HCS.out]; simp, HB7, HSC⟩
                    case measure => simp [intOf]; omega
                  · have hy1 : ((y : Int) == 0) = false := by simp; omega
                    go_wp2
                    go_roundw
                    case rel => exact ⟨k3 + 1, by omega, by go_num, by rw [HCS.out, if_neg hy0]; go_num, HB7, HSC⟩
                    case measure => simp [intOf]; omega
                · have e3 : k3 = 2048 := by omega
                  have hcf := cnt_full mm (wordsOf s) n' HN.out HPL.out
                  rw [← e3] at hcf
                  clear e3
                  obtain ⟨cc, ec⟩ : ∃ cc, cc = cnt (slotsTo mm (wordsOf s) n') k3 := ⟨_, rfl⟩
                  rw [← ec] at hcf ⊢
                  subst hcf
                  clear hcl ec
                  go_wp2
                  go_loopw [17] (fun i wr => ∃ k : Nat, k ≤ cc ∧ i = .int .i64 k ∧ Hid (Below w3.heap.size w3 wr) ∧ Hid (∀ j, j < 2048 → wr.cell? ⟨w6.heap.size, j, none⟩ = some (.int .u8 (slotsTo mm (wordsOf s) cc j)))) (fun i _ => cc - (intOf i).toNat)
                  case atStart => exact ⟨0, Nat.zero_le _, rfl, HB7, HSC⟩
                  case round =>
                    clear HB7 HSC
                    obtain ⟨k4, hk4, rfl, HB7, HSC⟩ := hrel
                    by_cases hl4 : k4 < cc
                    · have hkl : k4 < (wordsOf s).length := by have := HN.out; omega
                      have cA := HC1.out k4 hkl
                      have cA' := (HB7.out.cell (World.block_lt_of_cell? w3 _ cA)).trans cA
                      have cB := HC2.out k4 hkl
                      have cB' := (HB7.out.cell (World.block_lt_of_cell? w3 _ cB)).trans cB
                      have hh := hashL_lt mm (wordsOf s)[k4]
                      have cS := HSC.out _ hh
                      rw [slots_at mm (wordsOf s) cc k4 HN.out HPL.out hkl] at cS
                      have HC1M := hide ((HSET.out.below HB7.out).c1)
                      have HEH : Hid (slotN (wkN ((wordsOf s)[k4].take 8)) (wordsOf s)[k4].length mm = hashL mm (wordsOf s)[k4]) := hide rfl
                      obtain ⟨l, el⟩ : ∃ l, l = (wordsOf s)[k4] := ⟨_, rfl⟩
                      rw [← el] at cA' cB' hh cS HEH
                      obtain ⟨h0, eh⟩ : ∃ h0, h0 = hashL mm l := ⟨_, rfl⟩
                      rw [← eh] at hh cS HEH
                      clear cA cB el eh
                      go_wp2
                      go_quiet ((go_at_call 19; exact Calls.quiet_of_same (zzSlot_any B _ _ mm _ (by exact HC1M.out))))
                      rw [HEH.out]
                      go_wp2
                      go_roundw
                      case rel => exact ⟨k4 + 1, by omega, by go_num, hide (bdrew HB7.out _), HSC⟩
                      case measure => simp [intOf]; omega
                    · go_wp2
                      go_ret
                      exact ⟨rfl, HBW.out.trans (HB7.out.mono HBW.out.size)⟩
end Go.Proofs.Qxb6604040aDoor
