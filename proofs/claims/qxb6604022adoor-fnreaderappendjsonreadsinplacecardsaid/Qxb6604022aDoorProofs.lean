import Derived.Test.Qxb6604022aDoorLawB
import Derived.ProofKit
import Derived.LaidMore
import Derived.OpenShut
import Derived.Stop.Joined
import Derived.Stop.LaidErr
import Derived.ShutString
import Derived.ChangeOld
import Derived.Below
namespace Go.Proofs.Qxb6604022aDoor
open Go.ChangeShapes Go.WideShapes Go.ChangeAt Go.WideMaps Go.WideElems Go.RowKit

theorem own : ownKnob Tryd.prog.godebug = none := by kernel_rfl
theorem laidOut : laidOutB Tryd.prog = true := by kernel_rfl
theorem gPow : Tryd.prog.globalNamed powName = some 0 := by kernel_rfl
theorem tPow : (Tryd.prog.globals[0]?).map (·.type) = some 57 := by kernel_rfl
theorem cells32 : Tryd.prog.cellsOf 32 = 1 := by kernel_rfl
theorem cells57 : Tryd.prog.cellsOf 57 = 20 := by kernel_rfl
theorem data_eq : (Rows.laid_internal_strconv_uint64pow10 : DataW Unit) = Lib.tabData .u64 Lib.pow10Tab := by kernel_rfl

theorem tab_of_laid {W : World} (h : laidMetH Tryd.prog Rows.fnReaderAppendJSONMatchesStackModelRow.laid W) : Lib.TabIs Tryd.prog W powName .u64 Lib.pow10Tab := by
  rw [MakeChecks.laidMetH_plain _ _ _ (by kernel_rfl)] at h
  have h2 : laidMet Tryd.prog [(powName, Rows.laid_internal_strconv_uint64pow10)] W := laidMet.tail (laidMet.tail h)
  rw [data_eq] at h2
  exact Lib.tabIs_of_head gPow tPow Tryd.underlying57 Tryd.underlying32 cells32 cells57 h2

/-- The door's own heap meets the condition. -/
theorem door_met (os : Os) (args : Array Value) : laidMetH Tryd.prog Rows.fnReaderAppendJSONMatchesStackModelRow.laid ((World.doorLaid Tryd.prog 24 os).forCall (fun _ _ => 0) ⟨#[], args, []⟩).memory :=
  laidMetH_of_parts3 (fuel := 8) (laidMet_of_run' 8 (by kernel_rfl) (by kernel_rfl)) (by kernel_rfl) (by kernel_rfl)

/-- A slice of bytes that came in. -/
theorem arg_open {H : Type} {enc : TypeId × Value → H} {W : World} {base : Nat} {spare : Nat → Bool} {held : Bool} {fuel : Nat} {a0 : Option Addr} {len0 cap0 : Nat} {x : DataW H × List MemPlace} (hf : DataW.trod enc Tryd.prog W base spare held fuel 22 [.slice a0 len0 cap0] = some x) :
    ∃ l, Arg W (.slice a0 len0 cap0) l ∧ l.length ≤ maxLen := by
  rcases open_ints Tryd.underlying22 Tryd.underlying5 (by kernel_rfl) hf with ⟨hcs, _⟩ | ⟨X, l, c, zs, hcs, _, hl, hm, hz, _, hcell, hwz⟩
  · simp at hcs
    obtain ⟨rfl, rfl, rfl⟩ := hcs
    exact ⟨[], .inl ⟨rfl, rfl⟩, Nat.zero_le _⟩
  · simp at hcs
    obtain ⟨rfl, rfl, rfl⟩ := hcs
    have hzl : len0 ≤ zs.length := by rw [hz]; split <;> omega
    refine ⟨(zs.take len0).map fun z => UInt8.ofNat z.toNat, .inr ⟨X, cap0, ?_, ?_⟩, ?_⟩
    · simp [Nat.min_eq_left hzl]
    · intro j u hj
      have hjl : j < len0 := by
        have := (List.getElem?_eq_some_iff.1 hj).1
        rw [Lib.byteCells_length, List.length_map, List.length_take] at this
        omega
      have hjz : j < zs.length := by omega
      rw [hcell j hjz]
      have hw := hwz zs[j] (List.getElem_mem hjz)
      have hr : 0 ≤ zs[j] ∧ zs[j] < 256 := by
        have e1 : IntKind.u8.min = 0 := by decide
        have e2 : IntKind.u8.max = 255 := by decide
        simp [Lit.wf, e1, e2] at hw
        omega
      rw [← hj]
      simp only [Lib.byteCells, List.getElem?_map, List.getElem?_take_of_lt hjl, List.getElem?_eq_getElem hjz, Option.map_some, List.getD_eq_getElem?_getD, Option.getD_some, Option.some.injEq, Value.int.injEq, true_and]
      rw [UInt8.toNat_ofNat']
      omega
    · simp; omega

set_option maxRecDepth 100000 in
theorem lifted3 (hC : CborSpec) (os : Os) (started : os.Started) (H : Type) (enc : TypeId × Value → H) :
    ReturnsInHanded {} Tryd.checked os 3 .any (fun w args => (Rows.fnReaderAppendJSONMatchesStackModelSpec.pre enc Tryd.prog Tryd.f3 [] false w args ∧ laidMetH Tryd.prog Rows.fnReaderAppendJSONMatchesStackModelRow.laid w) ∧ sizedMet enc Tryd.prog Tryd.f3 (OpenSpec.ofChange Rows.fnReaderAppendJSONMatchesStackModelSpec) false w args)
      (Rows.fnReaderAppendJSONMatchesStackModelSpec.post enc Tryd.prog Tryd.f3 false true false false) := by
  refine returnsInHanded_of_change_and (C := Tryd.checked) (X := fun w _ => laidMetH Tryd.prog Rows.fnReaderAppendJSONMatchesStackModelRow.laid w) (fun _ _ _ hh h => h.of_heap hh) own started (by kernel_rfl) Tryd.func3
    (ChangeSpec.witness_shaped (enc := enc) (C := Tryd.checked) (os := os) (X := fun w _ => laidMetH Tryd.prog Rows.fnReaderAppendJSONMatchesStackModelRow.laid w) false (World.doorLaid Tryd.prog 24 os) #[.slice none 0 0, .int .i64 0, .slice none 0 0] 8 rfl (World.shaped_of_RefB (by kernel_rfl) (by kernel_rfl)) (by kernel_rfl) (by kernel_rfl) (by kernel_rfl) (door_met os _)) ?_
  intro W base args ds gs before hval0 hW _ _ hL _
  have hval : ∀ (j : Nat) t v, Tryd.f3.params[j]? = some t → args[j]? = some v → Value.okWide Tryd.prog W .any base t v := hval0
  have hW' := hW
  obtain ⟨p, q, hA0, hV, rfl, hfz, hnd⟩ := hW
  have hA : DataW.TrodAll enc Tryd.prog W 0 (fun _ => true) true Tryd.f3.params.toList args.toList ds p := hA0
  rw [Tryd.params3] at hA hval
  obtain ⟨v0, vs0, d0, ds0, p0, q0, hargs, rfl, rfl, h0, r0⟩ := trodAll_cons hA
  obtain ⟨v1, vs1, d1, ds1, p1, q1, rfl, rfl, rfl, h1, r1⟩ := trodAll_cons r0
  obtain ⟨v2, vs2, d2, ds2, p2, q2, rfl, rfl, rfl, h2, r2⟩ := trodAll_cons r1
  obtain ⟨rfl, rfl, rfl⟩ := trodAll_nil r2
  obtain rfl : args = #[v0, v1, v2] := by cases args; simp_all
  obtain ⟨rfl, rfl⟩ := trodVars_none hV
  obtain ⟨a0, len0, cap0, rfl⟩ := okWide_slice Tryd.underlying22 (hval 0 22 v0 rfl rfl)
  obtain ⟨a2, len2, cap2, rfl⟩ := okWide_slice Tryd.underlying22 (hval 2 22 v2 rfl rfl)
  have k0 := h0
  have k2 := h2
  have lt0 : ∀ x ∈ p0, x.block < W.heap.size := by obtain ⟨m, hm⟩ := k0; exact DataW.trod_lt m _ _ _ hm
  have lt2 : ∀ x ∈ p2, x.block < W.heap.size := by obtain ⟨m, hm⟩ := k2; exact DataW.trod_lt m _ _ _ hm
  obtain ⟨l0, A0, m0⟩ : ∃ l, Arg W (.slice a0 len0 cap0) l ∧ l.length ≤ maxLen := by
    obtain ⟨fuel, hf⟩ := h0
    exact arg_open (by simpa [Value.cells] using hf)
  obtain ⟨l2, A2, m2⟩ : ∃ l, Arg W (.slice a2 len2 cap2) l ∧ l.length ≤ maxLen := by
    obtain ⟨fuel, hf⟩ := h2
    exact arg_open (by simpa [Value.cells] using hf)
  obtain ⟨a1, rfl, rfl, rfl, w1⟩ := open_int Tryd.underlying3 (hval 1 3 v1 rfl rfl) h1
  have hr : -9223372036854775808 ≤ a1 ∧ a1 ≤ 9223372036854775807 := by
    have e1 : IntKind.i64.min = -9223372036854775808 := by decide
    have e2 : IntKind.i64.max = 9223372036854775807 := by decide
    have hw := w1
    simp [Lit.wf, e1, e2] at hw
    omega
  have htab := tab_of_laid hL
  clear hA0 hval0
  refine (law3 hC _ _ l0 l2 a1 W A0 A2 m0 m2 hr.1 hr.2 htab).mono fun e W' ⟨he, bel⟩ => ?_
  subst he
  exact ⟨_, rfl, _, _, _, [], _, [], hW', trodAll_mk1 (shut_bool Tryd.underlying4 _), (trodAll_cons_mk (Below.trod laidOut (by kernel_rfl) (of_decide_eq_true (by kernel_rfl)) k0 bel lt0) (trodAll_cons_mk (shut_int Tryd.underlying3 w1) (trodAll_cons_mk (Below.trod laidOut (by kernel_rfl) (of_decide_eq_true (by kernel_rfl)) k2 bel lt2) trodAll_mk0))), rfl, bel.frame _, fun h => by cases h⟩

theorem row_holds3 (hC : CborSpec) : Rows.FnReaderAppendJSONMatchesStackModelSaid :=
  OpenClaim.holds_of_wide 3 Tryd.f3 rfl rfl rfl rfl rfl rfl rfl ⟨rfl, rfl, rfl, rfl, rfl⟩ rfl rfl rfl rfl rfl (by kernel_rfl) Tryd.func3 (by kernel_rfl)
    (of_decide_eq_true (by kernel_rfl)) (by unfold Func.isWrapper; first | (rw [if_pos (by decide +kernel)]; kernel_rfl) | (rw [if_neg (by decide +kernel)]; exact ⟨rfl, rfl⟩))
    (fun os started H enc _ => lifted3 hC os started H enc)

set_option maxRecDepth 100000 in
theorem lifted4 (hC : CborSpec) (os : Os) (started : os.Started) (H : Type) (enc : TypeId × Value → H) :
    ReturnsInHanded {} Tryd.checked os 4 .any (fun w args => (Rows.fnReaderAppendJSONReadsInPlaceSpec.pre enc Tryd.prog Tryd.f4 [] false w args ∧ laidMetH Tryd.prog Rows.fnReaderAppendJSONReadsInPlaceRow.laid w) ∧ sizedMet enc Tryd.prog Tryd.f4 (OpenSpec.ofChange Rows.fnReaderAppendJSONReadsInPlaceSpec) false w args)
      (Rows.fnReaderAppendJSONReadsInPlaceSpec.post enc Tryd.prog Tryd.f4 false true false false) := by
  refine returnsInHanded_of_change_and (C := Tryd.checked) (X := fun w _ => laidMetH Tryd.prog Rows.fnReaderAppendJSONReadsInPlaceRow.laid w) (fun _ _ _ hh h => h.of_heap hh) own started (by kernel_rfl) Tryd.func4
    (ChangeSpec.witness_shaped (enc := enc) (C := Tryd.checked) (os := os) (X := fun w _ => laidMetH Tryd.prog Rows.fnReaderAppendJSONReadsInPlaceRow.laid w) false (World.doorLaid Tryd.prog 24 os) #[.slice none 0 0, .int .i64 0, .slice none 0 0] 8 rfl (World.shaped_of_RefB (by kernel_rfl) (by kernel_rfl)) (by kernel_rfl) (by kernel_rfl) (by kernel_rfl) (door_met os _)) ?_
  intro W base args ds gs before hval0 hW _ _ hL _
  have hval : ∀ (j : Nat) t v, Tryd.f4.params[j]? = some t → args[j]? = some v → Value.okWide Tryd.prog W .any base t v := hval0
  have hW' := hW
  obtain ⟨p, q, hA0, hV, rfl, hfz, hnd⟩ := hW
  have hA : DataW.TrodAll enc Tryd.prog W 0 (fun _ => true) true Tryd.f4.params.toList args.toList ds p := hA0
  rw [Tryd.params4] at hA hval
  obtain ⟨v0, vs0, d0, ds0, p0, q0, hargs, rfl, rfl, h0, r0⟩ := trodAll_cons hA
  obtain ⟨v1, vs1, d1, ds1, p1, q1, rfl, rfl, rfl, h1, r1⟩ := trodAll_cons r0
  obtain ⟨v2, vs2, d2, ds2, p2, q2, rfl, rfl, rfl, h2, r2⟩ := trodAll_cons r1
  obtain ⟨rfl, rfl, rfl⟩ := trodAll_nil r2
  obtain rfl : args = #[v0, v1, v2] := by cases args; simp_all
  obtain ⟨rfl, rfl⟩ := trodVars_none hV
  obtain ⟨a0, len0, cap0, rfl⟩ := okWide_slice Tryd.underlying22 (hval 0 22 v0 rfl rfl)
  obtain ⟨a2, len2, cap2, rfl⟩ := okWide_slice Tryd.underlying22 (hval 2 22 v2 rfl rfl)
  have k0 := h0
  have k2 := h2
  have lt0 : ∀ x ∈ p0, x.block < W.heap.size := by obtain ⟨m, hm⟩ := k0; exact DataW.trod_lt m _ _ _ hm
  have lt2 : ∀ x ∈ p2, x.block < W.heap.size := by obtain ⟨m, hm⟩ := k2; exact DataW.trod_lt m _ _ _ hm
  obtain ⟨l0, A0, m0⟩ : ∃ l, Arg W (.slice a0 len0 cap0) l ∧ l.length ≤ maxLen := by
    obtain ⟨fuel, hf⟩ := h0
    exact arg_open (by simpa [Value.cells] using hf)
  obtain ⟨l2, A2, m2⟩ : ∃ l, Arg W (.slice a2 len2 cap2) l ∧ l.length ≤ maxLen := by
    obtain ⟨fuel, hf⟩ := h2
    exact arg_open (by simpa [Value.cells] using hf)
  obtain ⟨a1, rfl, rfl, rfl, w1⟩ := open_int Tryd.underlying3 (hval 1 3 v1 rfl rfl) h1
  have hr : -9223372036854775808 ≤ a1 ∧ a1 ≤ 9223372036854775807 := by
    have e1 : IntKind.i64.min = -9223372036854775808 := by decide
    have e2 : IntKind.i64.max = 9223372036854775807 := by decide
    have hw := w1
    simp [Lit.wf, e1, e2] at hw
    omega
  have htab := tab_of_laid hL
  clear hA0 hval0
  refine (law4 hC _ _ l0 l2 a1 W A0 A2 m0 m2 hr.1 hr.2 htab).mono fun e W' ⟨he, bel⟩ => ?_
  subst he
  exact ⟨_, rfl, _, _, _, [], _, [], hW', trodAll_mk1 (shut_bool Tryd.underlying4 _), (trodAll_cons_mk (Below.trod laidOut (by kernel_rfl) (of_decide_eq_true (by kernel_rfl)) k0 bel lt0) (trodAll_cons_mk (shut_int Tryd.underlying3 w1) (trodAll_cons_mk (Below.trod laidOut (by kernel_rfl) (of_decide_eq_true (by kernel_rfl)) k2 bel lt2) trodAll_mk0))), rfl, bel.frame _, fun h => by cases h⟩

theorem row_holds4 (hC : CborSpec) : Rows.FnReaderAppendJSONReadsInPlaceSaid :=
  OpenClaim.holds_of_wide 4 Tryd.f4 rfl rfl rfl rfl rfl rfl rfl ⟨rfl, rfl, rfl, rfl, rfl⟩ rfl rfl rfl rfl rfl (by kernel_rfl) Tryd.func4 (by kernel_rfl)
    (of_decide_eq_true (by kernel_rfl)) (by unfold Func.isWrapper; first | (rw [if_pos (by decide +kernel)]; kernel_rfl) | (rw [if_neg (by decide +kernel)]; exact ⟨rfl, rfl⟩))
    (fun os started H enc _ => lifted4 hC os started H enc)
end Go.Proofs.Qxb6604022aDoor
