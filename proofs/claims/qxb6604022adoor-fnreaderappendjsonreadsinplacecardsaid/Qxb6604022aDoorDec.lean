import Derived.Test.Qxb6604022aDoorEsc
import Derived.Deep.MidRow
namespace Go.Proofs.Qxb6604022aDoor
open Go.RowKit

/-- A block of twenty digits. -/
def Buf (W : World) (b : Nat) (f : Nat → UInt8) : Prop := ∀ j, j < 20 → W.cell? ⟨b, j, none⟩ = some (.int .u8 (f j).toNat) ∧ W.frozen? ⟨b, j, none⟩ = false
def updB (f : Nat → UInt8) (i : Nat) (v : UInt8) : Nat → UInt8 := fun j => if j = i then v else f j
theorem Buf.set {W : World} {b : Nat} {f : Nat → UInt8} (h : Buf W b f) (i : Nat) (v : UInt8) : Buf (W.setCell ⟨b, i, none⟩ (.int .u8 v.toNat)) b (updB f i v) := fun j hj => by
  refine ⟨?_, by rw [World.frozen?_setCell]; exact (h j hj).2⟩
  unfold updB
  by_cases e : j = i
  · subst e; rw [World.cell?_setCell_same W _ _ (h j hj).1]; simp
  · rw [World.cell?_setCell_other W _ _ _ (by intro e2; injection e2 with _ e3; exact e e3.symm), (h j hj).1]; simp [e]

theorem Buf.new (w : World) : Buf (w.alloc (.cells #[.int .u8 0, .int .u8 0, .int .u8 0, .int .u8 0, .int .u8 0, .int .u8 0, .int .u8 0, .int .u8 0, .int .u8 0, .int .u8 0, .int .u8 0, .int .u8 0, .int .u8 0, .int .u8 0, .int .u8 0, .int .u8 0, .int .u8 0, .int .u8 0, .int .u8 0, .int .u8 0] 40)) w.heap.size (fun _ => 0) := fun j hj => by
  refine ⟨?_, World.frozen?_alloc_new w _ _ _⟩
  rw [World.cell?_alloc_new]
  rw [show (#[.int .u8 0, .int .u8 0, .int .u8 0, .int .u8 0, .int .u8 0, .int .u8 0, .int .u8 0, .int .u8 0, .int .u8 0, .int .u8 0, .int .u8 0, .int .u8 0, .int .u8 0, .int .u8 0, .int .u8 0, .int .u8 0, .int .u8 0, .int .u8 0, .int .u8 0, .int .u8 0] : Array Value) = Array.replicate 20 (.int .u8 0) from rfl]
  rw [Array.getElem?_replicate, if_pos hj]
  rfl
theorem Kept.of_below {B : Nat} {w w' : World} (hb : Below w.heap.size w w') (hB : B ≤ w.heap.size) : Kept B w w' :=
  ⟨hb.mono hB, fun k o hk _ _ => by rw [hb.block k (Array.getElem?_eq_some_iff.1 hk).1]; exact hk⟩
/-- The digits from place i on. -/
def From (f : Nat → UInt8) (i : Nat) (ds : List UInt8) : Prop := i + ds.length = 20 ∧ ∀ j u, ds[j]? = some u → f (i + j) = u
theorem From.put {f : Nat → UInt8} {i : Nat} {ds : List UInt8} (h : From f (i + 1) ds) (v : UInt8) : From (updB f i v) i (v :: ds) := by
  refine ⟨by have := h.1; simp; omega, fun j u hj => ?_⟩
  cases j with
  | zero => simp at hj; subst hj; simp [updB]
  | succ j =>
    have := h.2 j u (by simpa using hj)
    unfold updB
    rw [if_neg (by omega), ← this]
    congr 1
    omega
theorem From.cells {W : World} {b : Nat} {f : Nat → UInt8} {i : Nat} {ds : List UInt8} (h : From f i ds) (hb : Buf W b f) (j : Nat) (u : Value) (hj : (Lib.byteCells ds)[j]? = some u) : W.cell? ((⟨b, i, none⟩ : Addr).add j) = some u := by
  have hl : j < ds.length := by have := (List.getElem?_eq_some_iff.1 hj).1; rwa [Lib.byteCells_length] at this
  have h1 : (Lib.byteCells ds)[j]? = some (.int .u8 (ds[j]).toNat) := by simp [Lib.byteCells, hl]
  rw [h1] at hj
  cases hj
  rw [Addr.add_mid, (hb (i + j) (by have := h.1; omega)).1, h.2 j ds[j] (by simp [hl])]

theorem Tryd.zero40 : (Tryd.prog.info? 40).map (·.zero) = some (some (.agg (Array.replicate 20 (.int .u8 0)))) := by kernel_rfl

theorem dec_small (v : Nat) (h : v < 10) : Lib.decDigits v = [UInt8.ofNat (48 + v)] := Lib.decDigits_one h
theorem dec_big (v : Nat) (h : ¬ v < 10) : Lib.decDigits v = Lib.decDigits (v / 10) ++ [UInt8.ofNat (48 + v % 10)] := by rw [Lib.decDigits, dif_neg h]
theorem dig_toNat (v : Nat) : ((UInt8.ofNat (48 + v % 10)).toNat : Int) = 48 + ((v % 10 : Nat) : Int) := by rw [UInt8.toNat_ofNat']; omega

theorem slice40 (W : World) (b j : Nat) (h : j < 20) : (Instr.sliceAt 40 (.pointer (some ⟨b, 0, none⟩)) (some (.int .i64 (j : Int))) none none).run Tryd.prog W = .ok (.slice (some ⟨b, j, none⟩) (20 - j) (20 - j)) W := by
  have hal : Tryd.prog.arrayLen 40 = 20 := by simp [Program.arrayLen, Tryd.underlying40]
  have hel : Tryd.prog.elem 40 = 5 := by simp [Program.elem, Tryd.underlying40]
  rw [run_sliceAt_array_l W 40 ⟨b, 0, none⟩ (by rw [hal, hel]; exact Tryd.underlying40) .i64 (j : Int) (by omega) (by rw [hal]; omega), hal, hel]
  have hz : (sizeOf 5).run Tryd.prog W = .ok 1 W := Tryd.sizeOf5 W
  rw [hz]
  simp only [Result.andThen_ok, slicedAt, Int.toNat_natCast]
  rw [if_neg (by omega), Nat.mul_one, Addr.add_mid, Nat.zero_add]
theorem own_lt {B : Nat} {w : World} {v : Value} {bs : List UInt8} (h : Own B w v bs) : ∀ k, v.ownBlock = some k → k ≠ w.heap.size := fun k hk e => by
  have := h.lt k hk
  omega
theorem own_setCell {B : Nat} {w : World} {v : Value} {bs : List UInt8} (h : Own B w v bs) (p : Addr) (x : Value) (hne : ∀ k, v.ownBlock = some k → k ≠ p.block) : Own B (w.setCell p x) v bs := by
  exact h.keep fun k hk => heap_setCell_other w p k x (fun e => hne k hk e)
set_option maxHeartbeats 1000000 in
theorem appDec_any (B : Nat) (v : Value) (bs : List UInt8) (u : Nat) (w : World) (hu : u < 18446744073709551616) (hown : Own B w v bs) (hB : B ≤ w.heap.size) (hlim : bs.length + 20 ≤ 140737488355328) :
    Calls Tryd.prog 11 #[v, .int .u64 u] w fun e w' => App B w bs (Lib.decDigits u) e w' := by
  obtain ⟨a, n, cp, rfl, _⟩ := hown.shape
  have HO := hide hown
  have HL := hide (dec_len u hu)
  clear hown
  go_enter Tryd.func11, Tryd.ntmps11
  go_wp2
  go_loopw [1, 6] (fun x i wr => ∃ (y k : Nat) (ds : List UInt8) (f : Nat → UInt8), y < 18446744073709551616 ∧ k ≤ 20 ∧ x = .int .u64 y ∧ i = .int .i64 k ∧ Hid (Lib.decDigits u = Lib.decDigits y ++ ds) ∧ Hid (From f k ds) ∧ Hid (Buf wr w.heap.size f) ∧ Hid (Below w.heap.size w wr)) (fun _ i _ => (intOf i).toNat)
  case atStart =>
    exact ⟨u, 20, [], fun _ => 0, hu, Nat.le_refl _, rfl, rfl, hide (by simp), hide ⟨by simp, fun j u h => by simp at h⟩, hide (Buf.new w), hide ((Below.refl _ _).alloc (Nat.le_refl _) _)⟩
  case round =>
    obtain ⟨y, k, ds, f, hy, hk, rfl, rfl, HD, HF, HBf, HB⟩ := hrel
    have hk1 : 1 ≤ k := by
      have h1 := HL.out
      have h2 := HD.out
      have h3 := HF.out.1
      have h4 := dec_pos y
      rw [h2, List.length_append] at h1
      omega
    obtain ⟨j, rfl⟩ : ∃ j, k = j + 1 := ⟨k - 1, by omega⟩
    have c1 := (HBf.out j (by omega)).1
    have f1 := (HBf.out j (by omega)).2
    have HDG := hide (dig_toNat y)
    have HF2 := hide (HF.out.put (UInt8.ofNat (48 + y % 10)))
    have HB2 := hide (HBf.out.set j (UInt8.ofNat (48 + y % 10)))
    rw [HDG.out] at HB2
    by_cases hy10 : y < 10
    · have HDD : Hid (UInt8.ofNat (48 + y % 10) :: ds = Lib.decDigits u) := hide (by rw [HD.out, dec_small y hy10, Nat.mod_eq_of_lt hy10]; rfl)
      have hsl : ∀ W, (Instr.sliceAt 40 (.pointer (some ⟨w.heap.size, 0, none⟩)) (some (.int .i64 (j : Int))) none none).run Tryd.prog W = .ok (.slice (some ⟨w.heap.size, j, none⟩) (20 - j) (20 - j)) W := fun W => slice40 W w.heap.size j (by omega)
      have HOW := hide ((HO.out.below HB.out (Nat.le_refl _)))
      have HOW2 : Hid (Own B (wr.setCell ⟨w.heap.size, j, none⟩ (.int .u8 (48 + (y : Int) % 10))) (.slice a n cp) bs) := hide (own_setCell HOW.out _ _ (own_lt HO.out))
      have HB3 : Hid (Buf (wr.setCell ⟨w.heap.size, j, none⟩ (.int .u8 (48 + (y : Int) % 10))) w.heap.size (updB f j (UInt8.ofNat (48 + y % 10)))) := by
        have := HB2.out
        rw [Int.natCast_emod] at this
        exact this
      have HLD : Hid (20 - j = (UInt8.ofNat (48 + y % 10) :: ds).length) := hide (by have := HF2.out.1; omega)
      go_wp2_with (at_builtin; refine wpList_app rfl (.tmp 19) (.tmp 21) rfl B _ bs rfl HOW2.out (UInt8.ofNat (48 + y % 10) :: ds) ⟨w.heap.size, j, none⟩ (20 - j) (20 - j) HLD.out rfl (HF2.out.cells HB3.out) (by have := HLD.out; omega) (by have := HB.out.size; simp; omega) ?_; intro v1 w1 hown1 hk1)
      go_ret
      exact app_ret hown1 ((Kept.of_below (HB.out.setCell (Nat.le_refl _) _) hB).trans hk1) HDD.out
    · go_wp2
      go_roundw
      case rel =>
        refine ⟨y / 10, j, UInt8.ofNat (48 + y % 10) :: ds, _, by omega, by omega, by go_num, rfl, hide (by rw [HD.out, dec_big y hy10]; simp), HF2, ?_, hide (HB.out.setCell (Nat.le_refl _) _)⟩
        have := HB2.out
        rw [Int.natCast_emod] at this
        exact this
      case measure => simp [intOf]
end Go.Proofs.Qxb6604022aDoor
