import Derived.Test.Qxb6604040aDoorNew
namespace Go.Proofs.Qxb6604040aDoor
open Go.RowKit

set_option maxHeartbeats 400000 in
theorem zzBytes_any (s : ByteArray) (w : World) (hs : s.size ≤ maxLen) :
    Calls Tryd.prog 14 #[.string s] w fun e w' => e = .returned (.bool (decide (s.size ≤ 1048576))) ∧ w' = w := by
  unfold maxLen at hs
  by_cases h : s.size ≤ 1048576
  · go_enter Tryd.func14, Tryd.ntmps14
    go_wp2
    go_ret
    exact ⟨ret_bool (by simp [h]), rfl⟩
  · go_enter Tryd.func14, Tryd.ntmps14
    go_wp2
    go_ret
    exact ⟨ret_bool (by simp [h]), rfl⟩

set_option maxHeartbeats 400000 in
theorem getWords_any (B : Nat) (v : Value) (w : World) (c0 : w.cell? ⟨B, 0, none⟩ = some v) :
    Calls Tryd.prog 15 #[.pointer (some ⟨B, 0, none⟩)] w fun e w' => e = .returned v ∧ w' = w := by
  go_enter Tryd.func15, Tryd.ntmps15
  go_wp2
  go_ret
  exact ⟨rfl, rfl⟩
set_option maxHeartbeats 400000 in
theorem getMul_any (B m : Nat) (w : World) (c1 : w.cell? ⟨B, 1, none⟩ = some (.int .u64 m)) :
    Calls Tryd.prog 16 #[.pointer (some ⟨B, 0, none⟩)] w fun e w' => e = .returned (.int .u64 m) ∧ w' = w := by
  go_enter Tryd.func16, Tryd.ntmps16
  go_wp2
  go_ret
  exact ⟨rfl, rfl⟩

theorem results_cell1 {fn : Func} {p : Tmp} {ty : TypeId} (h : fn.results = #[.cell p ty]) (tmps : Array Value) (P : Program) (w : World) (a : Addr) (v : Value)
    (ht : tmps[p]?.getD undef = .pointer (some a)) (hl : (loadVar ty a).run P w = .ok v w) : (results fn tmps).run P w = .ok v w := by
  simp only [results, h]
  simp [ht, asAddr, hl]

/-- 256 keys, 2048 slots, as lists of cells. -/
def karr (K : Nat → Nat) : List Value := (List.range 256).map fun j => .int .u64 (K j)
def sarr (S : Nat → Nat) : List Value := (List.range 2048).map fun j => .int .u8 (S j)
theorem karr_len (K : Nat → Nat) : (karr K).length = 256 := by simp only [karr, List.length_map, List.length_range]
theorem sarr_len (S : Nat → Nat) : (sarr S).length = 2048 := by simp only [sarr, List.length_map, List.length_range]
theorem karr_at (K : Nat → Nat) (j : Nat) (h : j < 256) : (karr K)[j]? = some (.int .u64 (K j)) := by
  unfold karr; rw [List.getElem?_map, List.getElem?_range h]; rfl
theorem sarr_at (S : Nat → Nat) (j : Nat) (h : j < 2048) : (sarr S)[j]? = some (.int .u8 (S j)) := by
  unfold sarr; rw [List.getElem?_map, List.getElem?_range h]; rfl
theorem karr_one (K : Nat → Nat) : (karr K).toArray.all (·.oneCell') = true := all_oneCell_toArray (fun v hv => by
  unfold karr at hv; rw [List.mem_map] at hv; obtain ⟨j, _, rfl⟩ := hv; rfl)
theorem sarr_one (S : Nat → Nat) : (sarr S).toArray.all (·.oneCell') = true := all_oneCell_toArray (fun v hv => by
  unfold sarr at hv; rw [List.mem_map] at hv; obtain ⟨j, _, rfl⟩ := hv; rfl)
theorem Tryd.size36 : (Tryd.prog.info? 36).map (·.size) = some 256 := by kernel_rfl
theorem Tryd.size38' : (Tryd.prog.info? 38).map (·.size) = some 2048 := by kernel_rfl

theorem SetAt.krange {W : World} {B : Nat} {vw : Value} {mul : Nat} {S K : Nat → Nat} (h : SetAt W B vw mul S K) : W.rangeAt B 2050 (karr K) := fun j v hv => by
  have hj : j < 256 := by have := (List.getElem?_eq_some_iff.1 hv).1; rwa [karr_len] at this
  rw [karr_at K j hj] at hv
  rw [h.ck j hj, hv]
theorem SetAt.srange {W : World} {B : Nat} {vw : Value} {mul : Nat} {S K : Nat → Nat} (h : SetAt W B vw mul S K) : W.rangeAt B 2 (sarr S) := fun j v hv => by
  have hj : j < 2048 := by have := (List.getElem?_eq_some_iff.1 hv).1; rwa [sarr_len] at this
  rw [sarr_at S j hj] at hv
  rw [h.cs j hj, hv]
theorem there_new (w : World) (Z : Array Value) (t : TypeId) (n : Nat) (hn : Z.size = n) : (w.alloc (.cells Z t)).there w.heap.size 0 n := fun j hj => by
  refine ⟨?_, World.frozen?_alloc_new w _ _ _⟩
  rw [World.cell?_alloc_new, Nat.zero_add]
  rw [Array.getElem?_eq_getElem (by omega)]
  rfl
theorem Z64_size : Z64.size = 256 := by unfold Z64; rw [Array.size_replicate]
theorem Z8_size : Z8.size = 2048 := by unfold Z8; rw [Array.size_replicate]
theorem below_setCells {B : Nat} {a w : World} (h : Below B a w) (b : Nat) (hb : B ≤ b) (hs : B ≤ w.heap.size) (o : Nat) (vs : List Value) : Below B a (w.setCells b o vs) :=
  h.grown (grown_setCells b vs o w) hs (fun k hk => by cases hk; exact hb)

set_option maxRecDepth 20000 in
set_option maxHeartbeats 400000 in
theorem getKeys_any (B : Nat) (K : Nat → Nat) (w : World) (hr : w.rangeAt B 2050 (karr K)) :
    Calls Tryd.prog 17 #[.pointer (some ⟨B, 0, none⟩)] w fun e w' => e = .returned (.agg (karr K).toArray) ∧ Below w.heap.size w w' := by
  have HR : Hid ((w.alloc (.cells Z64 36)).rangeAt B 2050 (karr K)) := hide (World.rangeAt_alloc hr _)
  have HT : Hid ((w.alloc (.cells Z64 36)).there w.heap.size 0 (karr K).toArray.size) := hide (there_new w Z64 36 _ (Z64_size.trans (by rw [List.size_toArray, karr_len])))
  clear hr
  go_enter Tryd.func17, Tryd.ntmps17
  go_wp2_with (first | (refine wpList_alloc_z rfl 36 rfl Z64 Tryd.zero36 ?_) | (refine wpList_load_mid rfl 36 (.tmp 5) rfl B 2050 rfl (karr K) _ ?hc Tryd.underlying36 rfl ?hi ?_) | (refine wpList_store_mid rfl 36 (.tmp 2) (.tmp 6) rfl w.heap.size 0 (karr K).toArray rfl rfl ?ht ?hi2 ?h1 ?_))
  case hc => exact HR.out
  case hi => rw [karr_len]; exact Tryd.size36
  case ht => exact HT.out
  case hi2 => rw [List.size_toArray, karr_len]; exact Tryd.size36
  case h1 => exact karr_one K
  have HL : Hid ((loadVar 36 ⟨w.heap.size, 0, none⟩).run Tryd.prog ((w.alloc (.cells Z64 36)).setCells w.heap.size 0 (karr K)) = .ok (.agg (karr K).toArray) ((w.alloc (.cells Z64 36)).setCells w.heap.size 0 (karr K))) :=
    hide (run_loadVar_mid _ _ 0 36 (karr K) _ (World.rangeAt_setCells_same _ _ _ _ (by have := HT.out; rwa [List.size_toArray] at this)) Tryd.underlying36 rfl (by rw [karr_len]; exact Tryd.size36))
  exact bodyPost_ret (v := .agg (karr K).toArray) (results_cell1 Tryd.results17 _ _ _ ⟨w.heap.size, 0, none⟩ _ rfl HL.out) rfl ⟨rfl, below_setCells ((Below.refl _ _).alloc (Nat.le_refl _) _) _ (Nat.le_refl _) (by simp) _ _⟩

set_option maxRecDepth 20000 in
set_option maxHeartbeats 400000 in
theorem getSlots_any (B : Nat) (S : Nat → Nat) (w : World) (hr : w.rangeAt B 2 (sarr S)) :
    Calls Tryd.prog 18 #[.pointer (some ⟨B, 0, none⟩)] w fun e w' => e = .returned (.agg (sarr S).toArray) ∧ Below w.heap.size w w' := by
  have HR : Hid ((w.alloc (.cells Z8 38)).rangeAt B 2 (sarr S)) := hide (World.rangeAt_alloc hr _)
  have HT : Hid ((w.alloc (.cells Z8 38)).there w.heap.size 0 (sarr S).toArray.size) := hide (there_new w Z8 38 _ (Z8_size.trans (by rw [List.size_toArray, sarr_len])))
  clear hr
  go_enter Tryd.func18, Tryd.ntmps18
  go_wp2_with (first | (refine wpList_alloc_z rfl 38 rfl Z8 Tryd.zero38 ?_) | (refine wpList_load_mid rfl 38 (.tmp 5) rfl B 2 rfl (sarr S) _ ?hc Tryd.underlying38 rfl ?hi ?_) | (refine wpList_store_mid rfl 38 (.tmp 2) (.tmp 6) rfl w.heap.size 0 (sarr S).toArray rfl rfl ?ht ?hi2 ?h1 ?_))
  case hc => exact HR.out
  case hi => rw [sarr_len]; exact Tryd.size38'
  case ht => exact HT.out
  case hi2 => rw [List.size_toArray, sarr_len]; exact Tryd.size38'
  case h1 => exact sarr_one S
  have HL : Hid ((loadVar 38 ⟨w.heap.size, 0, none⟩).run Tryd.prog ((w.alloc (.cells Z8 38)).setCells w.heap.size 0 (sarr S)) = .ok (.agg (sarr S).toArray) ((w.alloc (.cells Z8 38)).setCells w.heap.size 0 (sarr S))) :=
    hide (run_loadVar_mid _ _ 0 38 (sarr S) _ (World.rangeAt_setCells_same _ _ _ _ (by have := HT.out; rwa [List.size_toArray] at this)) Tryd.underlying38 rfl (by rw [sarr_len]; exact Tryd.size38'))
  exact bodyPost_ret (v := .agg (sarr S).toArray) (results_cell1 Tryd.results18 _ _ _ ⟨w.heap.size, 0, none⟩ _ rfl HL.out) rfl ⟨rfl, below_setCells ((Below.refl _ _).alloc (Nat.le_refl _) _) _ (Nat.le_refl _) (by simp) _ _⟩
end Go.Proofs.Qxb6604040aDoor
