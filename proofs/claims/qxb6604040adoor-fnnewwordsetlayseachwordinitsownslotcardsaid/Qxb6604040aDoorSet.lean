import Derived.Test.Qxb6604040aDoorPrem
namespace Go.Proofs.Qxb6604040aDoor
open Go.RowKit

theorem wpList_build_c {P : Program} {ops : Array Oper} {rest : List Oper} {o : Oper} {a : Act} {w : World} {Q : Exit → Act → World → Prop} (hg : o.guard = none) (t : TypeId) (parts : Array (Nat × Operand)) (ho : o.op = .build t parts) (cells : Array Value)
    (hf : P.built t (parts.map fun (i, x) => (i, a.eval x)).toList = some cells)
    (h : wpList P ops Q rest (a.put o.dst (.agg cells)) w) : wpList P ops Q (o :: rest) a w := by
  refine wpList_plain hg fun K hK => ?_
  unfold Oper.wp execOp
  have hr : (Instr.build t (parts.map fun x => (x.1, a.eval x.2))).run P w = .ok (.agg cells) w := run_build w t _ cells hf
  simp only [ho, Sem.run_bind, hr, Sem.run_pure, Result.andThen_ok]
  exact hK _ _ h

def Z8 : Array Value := Array.replicate 2048 (.int .u8 0)
def Z64 : Array Value := Array.replicate 256 (.int .u64 0)
def Wl : List Value := .slice none 0 0 :: .int .u64 0 :: (List.replicate 2048 (.int .u8 0) ++ List.replicate 256 (.int .u64 0))
def Wz0 : Array Value := Wl.toArray
def Wz (v : Value) : Array Value := Wz0.setIfInBounds 0 v
theorem built38 : Tryd.prog.built 38 [] = some Z8 := by kernel_rfl
theorem Tryd.zero48 : (Tryd.prog.info? 48).map (·.zero) = some (some (.agg Wz0)) := by kernel_rfl
theorem Tryd.zero36 : (Tryd.prog.info? 36).map (·.zero) = some (some (.agg Z64)) := by kernel_rfl
theorem Tryd.zero38 : (Tryd.prog.info? 38).map (·.zero) = some (some (.agg Z8)) := by kernel_rfl
theorem Wz0_size : Wz0.size = 2306 := by
  unfold Wz0 Wl
  rw [List.size_toArray]
  simp only [List.length_cons, List.length_append, List.length_replicate]
theorem flds48 : ∃ fs, Tryd.prog.underlying 48 = some (.struct fs) ∧ fs.toList.mapM (fun f => (Tryd.prog.info? f.type).map fun i => (f.offset, i.size)) = some [(0, 1), (1, 1), (2, 2048), (2050, 256)] := ⟨_, Tryd.underlying48, by kernel_rfl⟩
theorem built48 (a : Option Addr) (n c : Nat) : Tryd.prog.built 48 [(0, .slice a n c)] = some (Wz (.slice a n c)) := by
  obtain ⟨fs, hu, hf⟩ := flds48
  have hz := Tryd.zero48
  have hs := Wz0_size
  unfold Program.built
  cases hi : Tryd.prog.info? 48 with
  | none => simp [hi] at hz
  | some i =>
    have hz' : i.zero = some (.agg Wz0) := by simpa [hi] using hz
    simp only [hu, hz', hf]
    simp [Instr.fill, Value.cells, hs, Wz]

/-- A word set at the head of block B: its words, its multiplier, its slots, its keys. -/
structure SetAt (W : World) (B : Nat) (vw : Value) (mul : Nat) (S K : Nat → Nat) : Prop where
  c0 : W.cell? ⟨B, 0, none⟩ = some vw
  c1 : W.cell? ⟨B, 1, none⟩ = some (.int .u64 mul)
  cs : ∀ h, h < 2048 → W.cell? ⟨B, 2 + h, none⟩ = some (.int .u8 (S h))
  ck : ∀ j, j < 256 → W.cell? ⟨B, 2050 + j, none⟩ = some (.int .u64 (K j))
  fr : ∀ i, i < 2306 → W.frozen? ⟨B, i, none⟩ = false

theorem SetAt.new (w : World) (v : Value) : SetAt (w.alloc (.cells (Wz v) 48)) w.heap.size v 0 (fun _ => 0) (fun _ => 0) := by
  have hc : ∀ i, (w.alloc (.cells (Wz v) 48)).cell? ⟨w.heap.size, i, none⟩ = (Wz v)[i]? := fun i => World.cell?_alloc_new w _ _ _
  have h1 : ∀ i, 0 < i → (Wz v)[i]? = Wz0[i]? := fun i hi => by
    unfold Wz
    rw [Array.getElem?_setIfInBounds]
    rw [if_neg (by omega)]
  have h2 : ∀ i, Wz0[i + 2]? = (List.replicate 2048 (Value.int .u8 0) ++ List.replicate 256 (.int .u64 0))[i]? := fun i => by
    unfold Wz0 Wl
    rw [List.getElem?_toArray, List.getElem?_cons_succ, List.getElem?_cons_succ]
  refine ⟨?_, ?_, fun h hh => ?_, fun j hj => ?_, fun i _ => World.frozen?_alloc_new w _ _ _⟩
  · rw [hc]; unfold Wz; rw [Array.getElem?_setIfInBounds_self_of_lt (by rw [Wz0_size]; omega)]
  · rw [hc, h1 1 (by omega)]; unfold Wz0 Wl; rw [List.getElem?_toArray, List.getElem?_cons_succ, List.getElem?_cons_zero]; rfl
  · rw [hc, h1 _ (by omega), Nat.add_comm 2 h, h2, List.getElem?_append_left (by rw [List.length_replicate]; exact hh), List.getElem?_replicate_of_lt hh]; rfl
  · rw [hc, h1 _ (by omega), show 2050 + j = (2048 + j) + 2 from by omega, h2, List.getElem?_append_right (by rw [List.length_replicate]; omega), List.length_replicate, show 2048 + j - 2048 = j from by omega, List.getElem?_replicate_of_lt hj]; rfl

theorem addr_ne {B i j : Nat} (h : i ≠ j) : (⟨B, i, none⟩ : Addr) ≠ ⟨B, j, none⟩ := by
  intro e; injection e with _ e2; exact h e2

theorem SetAt.setMul {W : World} {B : Nat} {vw : Value} {mul : Nat} {S K : Nat → Nat} (h : SetAt W B vw mul S K) (m : Nat) : SetAt (W.setCell ⟨B, 1, none⟩ (.int .u64 m)) B vw m S K :=
  ⟨by rw [World.cell?_setCell_other W _ _ _ (addr_ne (by omega))]; exact h.c0, World.cell?_setCell_same W _ _ h.c1,
   fun i hi => by rw [World.cell?_setCell_other W _ _ _ (addr_ne (by omega))]; exact h.cs i hi,
   fun i hi => by rw [World.cell?_setCell_other W _ _ _ (addr_ne (by omega))]; exact h.ck i hi,
   fun i hi => by rw [World.frozen?_setCell]; exact h.fr i hi⟩

def upd (f : Nat → Nat) (i v : Nat) : Nat → Nat := fun j => if j = i then v else f j

theorem SetAt.setKey {W : World} {B : Nat} {vw : Value} {mul : Nat} {S K : Nat → Nat} (h : SetAt W B vw mul S K) (i v : Nat) (hi : i < 256) : SetAt (W.setCell ⟨B, 2050 + i, none⟩ (.int .u64 v)) B vw mul S (upd K i v) :=
  ⟨by rw [World.cell?_setCell_other W _ _ _ (addr_ne (by omega))]; exact h.c0,
   by rw [World.cell?_setCell_other W _ _ _ (addr_ne (by omega))]; exact h.c1,
   fun j hj => by rw [World.cell?_setCell_other W _ _ _ (addr_ne (by omega))]; exact h.cs j hj,
   fun j hj => by
     unfold upd
     by_cases e : j = i
     · subst e; rw [World.cell?_setCell_same W _ _ (h.ck j hj)]; simp
     · rw [World.cell?_setCell_other W _ _ _ (addr_ne (by omega)), h.ck j hj]; simp [e],
   fun j hj => by rw [World.frozen?_setCell]; exact h.fr j hj⟩

theorem SetAt.setSlot {W : World} {B : Nat} {vw : Value} {mul : Nat} {S K : Nat → Nat} (h : SetAt W B vw mul S K) (i v : Nat) (hi : i < 2048) : SetAt (W.setCell ⟨B, 2 + i, none⟩ (.int .u8 v)) B vw mul (upd S i v) K :=
  ⟨by rw [World.cell?_setCell_other W _ _ _ (addr_ne (by omega))]; exact h.c0,
   by rw [World.cell?_setCell_other W _ _ _ (addr_ne (by omega))]; exact h.c1,
   fun j hj => by
     unfold upd
     by_cases e : j = i
     · subst e; rw [World.cell?_setCell_same W _ _ (h.cs j hj)]; simp
     · rw [World.cell?_setCell_other W _ _ _ (addr_ne (by omega)), h.cs j hj]; simp [e],
   fun j hj => by rw [World.cell?_setCell_other W _ _ _ (addr_ne (by omega))]; exact h.ck j hj,
   fun j hj => by rw [World.frozen?_setCell]; exact h.fr j hj⟩

theorem SetAt.there {W : World} {B : Nat} {vw : Value} {mul : Nat} {S K : Nat → Nat} (h : SetAt W B vw mul S K) : W.there B 2 Z8.size := fun j hj => by
  have hj' : j < 2048 := by simpa [Z8] using hj
  exact ⟨by rw [h.cs j hj']; rfl, h.fr _ (by omega)⟩

theorem SetAt.wipe {W : World} {B : Nat} {vw : Value} {mul : Nat} {S K : Nat → Nat} (h : SetAt W B vw mul S K) : SetAt (W.setCells B 2 Z8.toList) B vw mul (fun _ => 0) K := by
  have hl : Z8.toList.length = 2048 := by simp only [Z8, Array.toList_replicate, List.length_replicate]
  have out : ∀ i, (i < 2 ∨ 2050 ≤ i) → (W.setCells B 2 Z8.toList).cell? ⟨B, i, none⟩ = W.cell? ⟨B, i, none⟩ := fun i hi =>
    World.cell?_setCells_out B Z8.toList 2 W ⟨B, i, none⟩ (fun _ _ => by rw [hl]; exact hi)
  refine ⟨by rw [out 0 (by omega)]; exact h.c0, by rw [out 1 (by omega)]; exact h.c1, fun i hi => ?_, fun i hi => by rw [out _ (by omega)]; exact h.ck i hi, fun i hi => by rw [World.frozen?_setCells]; exact h.fr i hi⟩
  rw [World.cell?_setCells_in B Z8.toList 2 W (fun j hj => (h.there j (by simpa using hj)).1) i (by omega)]
  simp only [Z8, Array.toList_replicate, List.getElem_replicate]
  rfl
theorem SetAt.drewN {W : World} {B : Nat} {vw : Value} {mul : Nat} {S K : Nat → Nat} (h : SetAt W B vw mul S K) (n : Nat) : SetAt (W.drewN n) B vw mul S K := ⟨h.c0, h.c1, h.cs, h.ck, h.fr⟩
theorem SetAt.below {W W' : World} {B : Nat} {vw : Value} {mul : Nat} {S K : Nat → Nat} (h : SetAt W B vw mul S K) (hb : Below W.heap.size W W') : SetAt W' B vw mul S K := by
  have hB : B < W.heap.size := World.block_lt_of_cell? W _ h.c0
  exact ⟨by rw [hb.cell hB]; exact h.c0, by rw [hb.cell hB]; exact h.c1, fun i hi => by rw [hb.cell hB]; exact h.cs i hi, fun i hi => by rw [hb.cell hB]; exact h.ck i hi, fun i hi => by rw [hb.frozen hB]; exact h.fr i hi⟩
end Go.Proofs.Qxb6604040aDoor
