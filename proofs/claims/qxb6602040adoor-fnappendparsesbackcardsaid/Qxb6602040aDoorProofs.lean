import Derived.Test.Qxb6602040aDoorLaw
import Derived.Test.Qxb6602040aDoorOut
import Derived.ProofKit
import Derived.LaidMore
import Derived.OpenShut
import Derived.Stop.Joined
import Derived.Stop.LaidErr
import Derived.ShutString
import Derived.ChangeOld
import Derived.Below
namespace Go.Proofs.Qxb6602040aDoor
open Go.ChangeShapes Go.WideShapes Go.ChangeAt Go.WideMaps Go.WideElems Go.RowKit
open Go.ChangeMaps (open_string shut_string)

theorem own : ownKnob Tryd.prog.godebug = none := by kernel_rfl
theorem laidOut : laidOutB Tryd.prog = true := by kernel_rfl
theorem gPow : Tryd.prog.globalNamed powName = some 0 := by kernel_rfl
theorem tPow : (Tryd.prog.globals[0]?).map (·.type) = some 48 := by kernel_rfl
theorem cells38 : Tryd.prog.cellsOf 38 = 1 := by kernel_rfl
theorem cells48 : Tryd.prog.cellsOf 48 = 20 := by kernel_rfl
theorem data_eq : (Rows.laid_internal_strconv_uint64pow10 : DataW Unit) = Lib.tabData .u64 Lib.pow10Tab := by kernel_rfl

theorem tab_of_laid {W : World} (h : laidMetH Tryd.prog Rows.fnAppendParsesBackRow.laid W) : Lib.TabIs Tryd.prog W powName .u64 Lib.pow10Tab := by
  rw [MakeChecks.laidMetH_plain _ _ _ (by kernel_rfl)] at h
  have h2 : laidMet Tryd.prog [(powName, Rows.laid_internal_strconv_uint64pow10)] W := laidMet.tail (laidMet.tail h)
  rw [data_eq] at h2
  exact Lib.tabIs_of_head gPow tPow Tryd.underlying48 Tryd.underlying38 cells38 cells48 h2

/-- The door's own heap meets the condition. -/
theorem door_met (os : Os) (args : Array Value) : laidMetH Tryd.prog Rows.fnAppendParsesBackRow.laid ((World.doorLaid Tryd.prog 24 os).forCall (fun _ _ => 0) ⟨#[], args, []⟩).memory :=
  laidMetH_of_parts3 (fuel := 8) (laidMet_of_run' 8 (by kernel_rfl) (by kernel_rfl)) (by kernel_rfl) (by kernel_rfl)

/-- A slice of integers that came in. -/
theorem arg_ints {H : Type} {enc : TypeId × Value → H} {W : World} {base : Nat} {spare : Nat → Bool} {held : Bool} {fuel : Nat} {a0 : Option Addr} {len0 cap0 : Nat} {x : DataW H × List MemPlace} (hf : DataW.trod enc Tryd.prog W base spare held fuel 23 [.slice a0 len0 cap0] = some x) :
    ∃ l : List Int, len0 = l.length ∧ len0 ≤ maxLen ∧ IRow W a0 l ∧ ∀ x ∈ l, -9223372036854775808 ≤ x ∧ x ≤ 9223372036854775807 := by
  rcases open_ints Tryd.underlying23 Tryd.underlying2 (by kernel_rfl) hf with ⟨hcs, _⟩ | ⟨X, l, c, zs, hcs, _, hl, hm, hz, _, hcell, hwz⟩
  · simp at hcs
    obtain ⟨rfl, rfl, rfl⟩ := hcs
    exact ⟨[], rfl, Nat.zero_le _, fun h => (h rfl).elim, fun x hx => by cases hx⟩
  · simp at hcs
    obtain ⟨rfl, rfl, rfl⟩ := hcs
    have hzl : len0 ≤ zs.length := by rw [hz]; split <;> omega
    refine ⟨zs.take len0, by simp; omega, by unfold maxLen at hm ⊢; omega, fun hne => ?_, fun x hx => ?_⟩
    · have h0 : 0 < zs.length := by
        rcases Nat.eq_zero_or_pos zs.length with h | h
        · exact (hne (by rw [List.eq_nil_of_length_eq_zero h]; simp)).elim
        · exact h
      obtain ⟨b, off, spot⟩ := X
      have hspot : spot = none := by simpa [Addr.add] using World.cell?_spot (hcell 0 h0)
      subst hspot
      refine ⟨b, off, rfl, fun i hi => ?_⟩
      have hi2 : i < zs.length := by simp at hi; omega
      have := hcell i hi2
      rw [add_plain] at this
      rw [this]
      simp [List.getD, hi2]
    · have hw := hwz x (List.mem_of_mem_take hx)
      have e1 : IntKind.i64.min = -9223372036854775808 := by decide
      have e2 : IntKind.i64.max = 9223372036854775807 := by decide
      simp [Lit.wf, e1, e2] at hw
      omega

theorem law_any (nm sv st : ByteArray) (tx : Int) (a : Option Addr) (n c : Nat) (bl : List Int) (w : World) (h1 : nm.size ≤ maxLen) (h2 : sv.size ≤ maxLen) (h3 : st.size ≤ maxLen) (h4 : n ≤ maxLen) (hn : n = bl.length) (hr : IRow w a bl) (t0 : -9223372036854775808 ≤ tx) (t1 : tx ≤ 9223372036854775807) (hbr : ∀ x ∈ bl, -9223372036854775808 ≤ x ∧ x ≤ 9223372036854775807)
    (htab : Lib.TabIs Tryd.prog w powName .u64 Lib.pow10Tab) :
    Calls Tryd.prog 4 #[.string nm, .string sv, .string st, .int .i64 tx, .slice a n c] w fun e w' => e = .returned (.bool true) ∧ Below w.heap.size w w' := by
  by_cases h : 1048576 < nm.size ∨ 1048576 < sv.size ∨ 1048576 < st.size ∨ 65536 < n ∨ 1048576 < nm.size + sv.size + st.size + 8 * n
  · exact law_out nm sv st tx a n c w h1 h2 h3 h4 h
  · exact law_in nm sv st tx a n c bl w (by omega) (by omega) (by omega) (by omega) (by omega) hn hr t0 t1 hbr htab

set_option maxRecDepth 100000 in
theorem lifted (os : Os) (started : os.Started) (H : Type) (enc : TypeId × Value → H) :
    ReturnsInHanded {} Tryd.checked os 4 .any (fun w args => (Rows.fnAppendParsesBackSpec.pre enc Tryd.prog Tryd.f4 [] false w args ∧ laidMetH Tryd.prog Rows.fnAppendParsesBackRow.laid w) ∧ sizedMet enc Tryd.prog Tryd.f4 (OpenSpec.ofChange Rows.fnAppendParsesBackSpec) false w args)
      (Rows.fnAppendParsesBackSpec.post enc Tryd.prog Tryd.f4 false true false false) := by
  refine returnsInHanded_of_change_and (C := Tryd.checked) (X := fun w _ => laidMetH Tryd.prog Rows.fnAppendParsesBackRow.laid w) (fun _ _ _ hh h => h.of_heap hh) own started (by kernel_rfl) Tryd.func4
    (ChangeSpec.witness_shaped (enc := enc) (C := Tryd.checked) (os := os) (X := fun w _ => laidMetH Tryd.prog Rows.fnAppendParsesBackRow.laid w) false (World.doorLaid Tryd.prog 24 os) #[.string ⟨#[]⟩, .string ⟨#[]⟩, .string ⟨#[]⟩, .int .i64 0, .slice none 0 0] 8 rfl (World.shaped_of_RefB (by kernel_rfl) (by kernel_rfl)) (by kernel_rfl) (by kernel_rfl) (by kernel_rfl) (door_met os _)) ?_
  intro W base args ds gs before hval0 hW _ _ hL _
  have hval : ∀ (j : Nat) t v, Tryd.f4.params[j]? = some t → args[j]? = some v → Value.okWide Tryd.prog W .any base t v := hval0
  have hW' := hW
  obtain ⟨p, q, hA0, hV, rfl, hfz, hnd⟩ := hW
  have hA : DataW.TrodAll enc Tryd.prog W 0 (fun _ => true) true Tryd.f4.params.toList args.toList ds p := hA0
  rw [Tryd.params4] at hA hval
  obtain ⟨v0, vs0, d0, ds0, p0, q0, hargs, rfl, rfl, h0, r0⟩ := trodAll_cons hA
  obtain ⟨v1, vs1, d1, ds1, p1, q1, rfl, rfl, rfl, h1, r1⟩ := trodAll_cons r0
  obtain ⟨v2, vs2, d2, ds2, p2, q2, rfl, rfl, rfl, h2, r2⟩ := trodAll_cons r1
  obtain ⟨v3, vs3, d3, ds3, p3, q3, rfl, rfl, rfl, h3, r3⟩ := trodAll_cons r2
  obtain ⟨v4, vs4, d4, ds4, p4, q4, rfl, rfl, rfl, h4, r4⟩ := trodAll_cons r3
  obtain ⟨rfl, rfl, rfl⟩ := trodAll_nil r4
  obtain rfl : args = #[v0, v1, v2, v3, v4] := by cases args; simp_all
  obtain ⟨rfl, rfl⟩ := trodVars_none hV
  obtain ⟨a4, len4, cap4, rfl⟩ := okWide_slice Tryd.underlying23 (hval 4 23 v4 rfl rfl)
  have k4 := h4
  have lt4 : ∀ x ∈ p4, x.block < W.heap.size := by obtain ⟨m, hm⟩ := k4; exact DataW.trod_lt m _ _ _ hm
  obtain ⟨bl, hbn, hbm, hbr, hbw⟩ : ∃ l : List Int, len4 = l.length ∧ len4 ≤ maxLen ∧ IRow W a4 l ∧ ∀ x ∈ l, -9223372036854775808 ≤ x ∧ x ≤ 9223372036854775807 := by
    obtain ⟨fuel, hf⟩ := h4
    exact arg_ints (by simpa [Value.cells] using hf)
  obtain ⟨nm, rfl, rfl, rfl, hnm⟩ := open_string Tryd.underlying9 (hval 0 9 v0 rfl rfl) h0
  obtain ⟨sv, rfl, rfl, rfl, hsv⟩ := open_string Tryd.underlying9 (hval 1 9 v1 rfl rfl) h1
  obtain ⟨st, rfl, rfl, rfl, hst⟩ := open_string Tryd.underlying9 (hval 2 9 v2 rfl rfl) h2
  obtain ⟨tx, rfl, rfl, rfl, w3⟩ := open_int Tryd.underlying2 (hval 3 2 v3 rfl rfl) h3
  have hr : -9223372036854775808 ≤ tx ∧ tx ≤ 9223372036854775807 := by
    have e1 : IntKind.i64.min = -9223372036854775808 := by decide
    have e2 : IntKind.i64.max = 9223372036854775807 := by decide
    have hw := w3
    simp [Lit.wf, e1, e2] at hw
    omega
  have htab := tab_of_laid hL
  clear hA0 hval0
  refine (law_any nm sv st tx a4 len4 cap4 bl W hnm hsv hst hbm hbn hbr hr.1 hr.2 hbw htab).mono fun e W' ⟨he, bel⟩ => ?_
  subst he
  exact ⟨_, rfl, _, _, _, [], _, [], hW', trodAll_mk1 (shut_bool Tryd.underlying4 _), (trodAll_cons_mk (shut_string Tryd.underlying9 hnm) (trodAll_cons_mk (shut_string Tryd.underlying9 hsv) (trodAll_cons_mk (shut_string Tryd.underlying9 hst) (trodAll_cons_mk (shut_int Tryd.underlying2 w3) (trodAll_cons_mk (Below.trod laidOut (by kernel_rfl) (of_decide_eq_true (by kernel_rfl)) k4 bel lt4) trodAll_mk0))))), rfl, bel.frame _, fun h => by cases h⟩

theorem row_holds : Rows.FnAppendParsesBackSaid :=
  OpenClaim.holds_of_wide 4 Tryd.f4 rfl rfl rfl rfl rfl rfl rfl ⟨rfl, rfl, rfl, rfl, rfl⟩ rfl rfl rfl rfl rfl (by kernel_rfl) Tryd.func4 (by kernel_rfl)
    (of_decide_eq_true (by kernel_rfl)) (by unfold Func.isWrapper; first | (rw [if_pos (by decide +kernel)]; kernel_rfl) | (rw [if_neg (by decide +kernel)]; exact ⟨rfl, rfl⟩))
    (fun os started H enc _ => lifted os started H enc)
end Go.Proofs.Qxb6602040aDoor
