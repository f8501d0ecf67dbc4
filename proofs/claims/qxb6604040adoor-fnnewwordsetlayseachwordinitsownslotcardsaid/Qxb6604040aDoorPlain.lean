import Derived.Test.Qxb6604040aDoorSplit
import Derived.Deep.MidRow
import Derived.Deep.Draws
namespace Go.Proofs.Qxb6604040aDoor
open Go.RowKit

theorem wpList_alloc_z {P : Program} {ops : Array Oper} {rest : List Oper} {o : Oper} {a : Act} {w : World} {Q : Exit → Act → World → Prop} (hg : o.guard = none) (t : TypeId) (ho : o.op = .alloc t) (Z : Array Value)
    (hz : (P.info? t).map (·.zero) = some (some (.agg Z)))
    (h : wpList P ops Q rest (a.put o.dst (.pointer (some ⟨w.heap.size, 0, none⟩))) (w.alloc (.cells Z t))) : wpList P ops Q (o :: rest) a w := by
  refine wpList_plain hg fun K hK => ?_
  unfold Oper.wp
  have hrun : (execOp a.eval o).run P w = .ok (.value (.pointer (some ⟨w.heap.size, 0, none⟩))) (w.alloc (.cells Z t)) := by
    cases hq : P.info? t with
    | none => simp [hq] at hz
    | some i =>
      have hs : i.zero = some (.agg Z) := by simpa [hq] using hz
      unfold execOp
      simp [ho, Instr.alloc, zeroValue, typeInfo, hq, hs, newVar, newRow, Value.cells, go_sem]
  rw [hrun, Oper.upon_value]
  exact hK _ _ h

def Zb : Array Value := Array.replicate 2048 (.bool false)
theorem Tryd.zero53 : (Tryd.prog.info? 53).map (·.zero) = some (some (.agg Zb)) := by kernel_rfl

def slotN (key len mul : Nat) : Nat := (key + len) * mul % 18446744073709551616 / 9007199254740992
theorem slotN_lt (key len mul : Nat) : slotN key len mul < 2048 := by
  unfold slotN
  have := Nat.mod_lt ((key + len) * mul) (show 0 < 18446744073709551616 by decide)
  omega
theorem slot_eq (key len mul : Nat) :
    IntKind.u64.wrap (IntKind.u64.wrap ((key : Int) + IntKind.u64.wrap (len : Int)) * (mul : Int)) / 9007199254740992 = ((slotN key len mul : Nat) : Int) := by
  unfold slotN
  simp only [IntKind.wrap_u64]
  rw [Int.natCast_ediv, Int.natCast_emod, Int.natCast_mul, Int.natCast_add]
  congr 1
  show _ % 18446744073709551616 = _ % 18446744073709551616
  rw [Int.add_emod_emod, Int.mul_emod, Int.emod_emod, ← Int.mul_emod]

/-- The slot of a word under a multiplier. -/
def hashL (mul : Nat) (l : List UInt8) : Nat := slotN (wkN (l.take 8)) l.length mul
theorem hashL_lt (mul : Nat) (l : List UInt8) : hashL mul l < 2048 := slotN_lt _ _ _
def hashes (mul : Nat) (ws : List (List UInt8)) : List Nat := ws.map (hashL mul)
def placeB (mul : Nat) (ws : List (List UInt8)) : Bool := decide (hashes mul ws).Nodup

/-- A slice value that reads as these cells. -/
def RowIs (w : World) (v : Value) (xs : List Value) : Prop :=
  ∃ a c, v = .slice a xs.length c ∧ (0 < xs.length → ∃ b, a = some ⟨b, 0, none⟩ ∧ ∀ i u, xs[i]? = some u → w.cell? ⟨b, i, none⟩ = some u)
theorem RowIs.below {w w' : World} {v : Value} {xs : List Value} (h : RowIs w v xs) (hb : Below w.heap.size w w') : RowIs w' v xs := by
  obtain ⟨a, c, rfl, h⟩ := h
  refine ⟨a, c, rfl, fun h0 => ?_⟩
  obtain ⟨b, rfl, hc⟩ := h h0
  refine ⟨b, rfl, fun i u hu => ?_⟩
  have := hc i u hu
  rw [hb.cell (World.block_lt_of_cell? w _ this)]
  exact this
theorem RowIs.of_owns {w : World} {base : Nat} {e : TypeId} {v : Value} {n : Nat} {xs : List Value} (h : w.ownsRow base e 1 v n xs) : RowIs w v xs := by
  obtain ⟨hl, h⟩ := h
  rcases h with ⟨rfl, rfl⟩ | ⟨g, cap, cur, rfl, hb, hg, hn, hm, hs, ht⟩
  · have : xs.length = 0 := by omega
    exact ⟨none, 0, by rw [this], fun h0 => by omega⟩
  · refine ⟨some ⟨g, 0, none⟩, cap, by rw [hl]; simp, fun _ => ⟨g, rfl, fun i u hu => ?_⟩⟩
    rw [cell_of_row w g i cur e _ hg]
    rw [← ht] at hu
    rw [List.getElem?_take] at hu
    split at hu
    · simpa using hu
    · cases hu

/-- A block of 2048 marks. -/
def Marks (W : World) (B : Nat) (S : List Nat) : Prop := ∀ h, h < 2048 → W.cell? ⟨B, h, none⟩ = some (.bool (decide (h ∈ S))) ∧ W.frozen? ⟨B, h, none⟩ = false
theorem Marks.new (w : World) : Marks (w.alloc (.cells Zb 53)) w.heap.size [] := fun h hh => by
  refine ⟨?_, World.frozen?_alloc_new w _ _ _⟩
  rw [World.cell?_alloc_new w Zb 53 h]
  simp [Zb, hh]
theorem Marks.set {W : World} {B : Nat} {S : List Nat} (h : Marks W B S) (h0 : Nat) (hh : h0 < 2048) : Marks (W.setCell ⟨B, h0, none⟩ (.bool true)) B (S ++ [h0]) := fun i hi => by
  refine ⟨?_, by rw [World.frozen?_setCell]; exact (h i hi).2⟩
  by_cases e : i = h0
  · subst e
    rw [World.cell?_setCell_same W _ _ (h i hi).1]
    simp
  · rw [World.cell?_setCell_other W _ _ _ (by intro e2; injection e2 with _ e3; exact e e3.symm), (h i hi).1]
    simp [e]
theorem Marks.drewN {W : World} {B : Nat} {S : List Nat} (h : Marks W B S) (n : Nat) : Marks (W.drewN n) B S := h

theorem hashes_snoc (mul : Nat) (ws : List (List UInt8)) (k : Nat) (h : k < ws.length) : hashes mul (ws.take (k + 1)) = hashes mul (ws.take k) ++ [hashL mul ws[k]] := by
  unfold hashes
  rw [List.take_succ_eq_append_getElem h, List.map_append]
  rfl
theorem nodup_snoc {l : List Nat} {x : Nat} : (l ++ [x]).Nodup ↔ l.Nodup ∧ x ∉ l := by
  rw [List.nodup_append]
  simp
  intro _
  constructor
  · intro h hx; exact h x hx rfl
  · intro h a ha e; subst e; exact h ha
theorem place_no (mul : Nat) (ws : List (List UInt8)) (k : Nat) (h : k < ws.length) (hd : hashL mul ws[k] ∈ hashes mul (ws.take k)) : placeB mul ws = false := by
  unfold placeB
  rw [decide_eq_false_iff_not]
  intro hn
  have e : hashes mul ws = hashes mul (ws.take (k + 1)) ++ hashes mul (ws.drop (k + 1)) := by unfold hashes; rw [← List.map_append, List.take_append_drop]
  rw [e, List.nodup_append] at hn
  have := hn.1
  rw [hashes_snoc mul ws k h, nodup_snoc] at this
  exact this.2 hd
theorem place_yes (mul : Nat) (ws : List (List UInt8)) (k : Nat) (h : ws.length ≤ k) (hd : (hashes mul (ws.take k)).Nodup) : placeB mul ws = true := by
  rw [List.take_of_length_le h] at hd
  simpa [placeB] using hd
end Go.Proofs.Qxb6604040aDoor
