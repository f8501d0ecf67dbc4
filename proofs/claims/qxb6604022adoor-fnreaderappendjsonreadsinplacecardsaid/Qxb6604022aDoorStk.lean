import Derived.Test.Qxb6604022aDoorStr
import Derived.Laws.OwnMore
namespace Go.Proofs.Qxb6604022aDoor
open Go.RowKit

theorem Tryd.info36 : (Tryd.prog.info? 36).map (fun i => (i.zero, i.size, i.bytes)) = some (some (.agg #[.int .u64 0, .bool false, .bool false, .int .u8 0]), 4, 16) := by kernel_rfl

def frCells (fr : Fr) : List Value := [.int .u64 fr.left, .bool fr.isMap, .bool fr.want, .int .u8 fr.fin.toNat]
/-- The stack's cells, the lowest container first. -/
def stCells (fs : List Fr) : List Value := fs.reverse.flatMap frCells
theorem stCells_cons (fr : Fr) (fs : List Fr) : stCells (fr :: fs) = stCells fs ++ frCells fr := by simp [stCells, List.flatMap_append]
theorem stCells_length : ∀ fs : List Fr, (stCells fs).length = fs.length * 4
  | [] => rfl
  | fr :: fs => by rw [stCells_cons, List.length_append, stCells_length fs]; simp [frCells]; omega
theorem frCells_one (fr : Fr) : ∀ u ∈ frCells fr, u.oneCell' = true := fun u hu => by
  simp only [frCells, List.mem_cons, List.mem_nil_iff, or_false] at hu
  rcases hu with rfl | rfl | rfl | rfl <;> rfl

/-- The value owns these containers. -/
def Stk (B : Nat) (w : World) (v : Value) (fs : List Fr) : Prop := w.ownsRow B 36 4 v fs.length (stCells fs)
theorem Stk.nil (B : Nat) (w : World) : Stk B w (.slice none 0 0) [] := World.ownsRow_nil _ _ _ _
theorem Stk.shape {B : Nat} {w : World} {v : Value} {fs : List Fr} (h : Stk B w v fs) : ∃ a n c, v = .slice a n c ∧ Hid (n = fs.length) := by
  rcases h.2 with ⟨rfl, h0⟩ | ⟨g, cap, cur, rfl, _⟩
  · exact ⟨none, 0, 0, rfl, h0.symm⟩
  · exact ⟨_, _, _, rfl, rfl⟩
theorem Stk.keep {B : Nat} {w w' : World} {v : Value} {fs : List Fr} (h : Stk B w v fs) (hb : ∀ k, v.ownBlock = some k → w'.heap[k]? = w.heap[k]?) : Stk B w' v fs := by
  refine ⟨h.1, ?_⟩
  rcases h.2 with h1 | ⟨g, cap, cur, rfl, hbg, hg, rest⟩
  · exact .inl h1
  · exact .inr ⟨g, cap, cur, rfl, hbg, by rw [hb g rfl]; exact hg, rest⟩
/-- Bytes may be appended: the stack stays. -/
theorem Stk.kept {B : Nat} {w w' : World} {v : Value} {fs : List Fr} (h : Stk B w v fs) (hk : Kept B w w') : Stk B w' v fs := h.keep fun k hkk => by
  obtain ⟨c, fz, hc⟩ := Lib.ownsRow_kind h k hkk
  rw [hc, hk.2 k _ hc (by simp) (fun c' fz' e => by cases e)]
theorem Stk.alloc {B : Nat} {w : World} {v : Value} {fs : List Fr} (h : Stk B w v fs) (o : Obj) : Stk B (w.alloc o) v fs := World.ownsRow.alloc h o
/-- The stack may turn: the bytes stay. -/
theorem Own.stk {B : Nat} {w w' : World} {v sv : Value} {bs : List UInt8} {fs : List Fr} (h : Own B w v bs) (hs : Stk B w sv fs) (hg : w.grownBy w' sv.ownBlock) : Own B w' v bs := h.keep fun k hk => by
  refine hg.block k (h.lt k hk) fun e => ?_
  obtain ⟨c, fz, hc⟩ := h.kind k hk
  obtain ⟨c', fz', hc'⟩ := Lib.ownsRow_kind hs k e.symm
  rw [hc] at hc'
  cases hc'
theorem Stk.below {B : Nat} {w w' : World} {sv : Value} {fs : List Fr} (hs : Stk B w sv fs) (hg : w.grownBy w' sv.ownBlock) (hB : B ≤ w.heap.size) : Below B w w' :=
  (Below.refl _ _).grown hg hB (fun k hk => (World.ownsRow.lt hs k hk).1)

/-- The top container. -/
theorem Stk.top {B : Nat} {w : World} {v : Value} {fr : Fr} {fs : List Fr} (h : Stk B w v (fr :: fs)) :
    ∃ g cap, v = .slice (some ⟨g, 0, none⟩) (fs.length + 1) cap ∧ fs.length + 1 ≤ cap ∧ w.cell? ⟨g, fs.length * 4, none⟩ = some (.int .u64 fr.left) ∧ w.cell? ⟨g, fs.length * 4 + 1, none⟩ = some (.bool fr.isMap) ∧ w.cell? ⟨g, fs.length * 4 + 2, none⟩ = some (.bool fr.want) ∧ w.cell? ⟨g, fs.length * 4 + 3, none⟩ = some (.int .u8 fr.fin.toNat) ∧ (∀ j, w.frozen? ⟨g, j, none⟩ = false) := by
  have h0 := h
  rcases h0.2 with ⟨rfl, e⟩ | ⟨g, cap, cur, rfl, hbg, hg, hnc, rest⟩
  · simp at e
  · have hc : ∀ j, j < (fs.length + 1) * 4 → w.cell? ⟨g, j, none⟩ = (stCells fs ++ frCells fr)[j]? := fun j hj => by rw [← stCells_cons]; exact World.ownsRow.cellAt h j hj
    have hl := stCells_length fs
    refine ⟨g, cap, rfl, hnc, ?_, ?_, ?_, ?_, fun j => World.ownsRow.frozenAt h j⟩
    all_goals (rw [hc _ (by omega), List.getElem?_append_right (by omega), hl]; simp [frCells])
theorem Stk.topAt {B : Nat} {w : World} {g n cap : Nat} {fr : Fr} {fs : List Fr} (h : Stk B w (.slice (some ⟨g, 0, none⟩) n cap) (fr :: fs)) :
    w.cell? ⟨g, fs.length * 4, none⟩ = some (.int .u64 fr.left) ∧ w.cell? ⟨g, fs.length * 4 + 1, none⟩ = some (.bool fr.isMap) ∧ w.cell? ⟨g, fs.length * 4 + 2, none⟩ = some (.bool fr.want) ∧ w.cell? ⟨g, fs.length * 4 + 3, none⟩ = some (.int .u8 fr.fin.toNat) ∧ (∀ j, w.frozen? ⟨g, j, none⟩ = false) := by
  obtain ⟨g', cap', e, _, r⟩ := h.top
  cases e
  exact r
/-- A field of the top container is stored. -/
theorem Stk.set {B : Nat} {w : World} {g n cap : Nat} {fr fr' : Fr} {fs : List Fr} (h : Stk B w (.slice (some ⟨g, 0, none⟩) n cap) (fr :: fs)) (hn : n = fs.length + 1) (k : Nat) (x : Value) (hk : (frCells fr).set k x = frCells fr') :
    Stk B (w.setCell ⟨g, fs.length * 4 + k, none⟩ x) (.slice (some ⟨g, 0, none⟩) n cap) (fr' :: fs) ∧ w.grownBy (w.setCell ⟨g, fs.length * 4 + k, none⟩ x) (some g) := by
  subst hn
  have := World.ownsRow.stored h (fs.length * 4 + k) x
  refine ⟨?_, this.2⟩
  have h1 := this.1
  rw [stCells_cons, List.set_append_right _ _ (by rw [stCells_length]; omega), stCells_length, Nat.add_sub_cancel_left, hk, ← stCells_cons] at h1
  exact h1
/-- The top container is left. -/
theorem Stk.pop {B : Nat} {w : World} {g n cap : Nat} {fr : Fr} {fs : List Fr} (h : Stk B w (.slice (some ⟨g, 0, none⟩) n cap) (fr :: fs)) : Stk B w (.slice (some ⟨g, 0, none⟩) fs.length cap) fs := by
  refine ⟨stCells_length fs, ?_⟩
  rcases h.2 with ⟨e, _⟩ | ⟨g', cap', cur, e, hbg, hg, hnc, hcm, hcs, htake⟩
  · cases e
  · cases e
    refine .inr ⟨g, cap, cur, rfl, hbg, hg, by simp at hnc; omega, hcm, hcs, ?_⟩
    have : cur.toList.take (fs.length * 4) = (cur.toList.take ((fr :: fs).length * 4)).take (fs.length * 4) := by rw [List.take_take, Nat.min_eq_left (by simp; omega)]
    rw [this, htake, stCells_cons, ← stCells_length fs]
    exact List.take_left

/-- A container is put on top. -/
theorem wpList_push {w : World} {ops : Array Oper} {rest : List Oper} {o : Oper} {a : Act} {Q : Exit → Act → World → Prop} (hgd : o.guard = none) (s x : Operand)
    (ho : o.op = .call { callee := .builtin .append, args := #[s, x], argTypes := #[30, 30] })
    (B : Nat) (v : Value) (fs : List Fr) (hs : a.eval s = v) (hown : Stk B w v fs) (fr : Fr) (ad : Addr) (c : Nat) (hx : a.eval x = .slice (some ad) 1 c)
    (hc : ∀ j u, (frCells fr)[j]? = some u → w.cell? (ad.add j) = some u) (hlim : fs.length ≤ 1048576000) (hB : B ≤ w.heap.size)
    (h : ∀ v' w', Stk B w' v' (fr :: fs) → w.grownBy w' v.ownBlock → wpList Tryd.prog ops Q rest (a.put o.dst v') w') : wpList Tryd.prog ops Q (o :: rest) a w := by
  obtain ⟨i0, hi, hz0, hz1, hz2⟩ := info_parts Tryd.info36
  refine wpList_append_own w hgd s x 30 ho B 36 i0 _ 4 16 Tryd.underlying30 hi hz0 hz1 hz2 rfl (by decide) v fs.length (stCells fs) hs hown ad 1 c (frCells fr) hx rfl hc (frCells_one fr) (by unfold maxLen; omega) (by omega) hB ?_
  intro v' w' h1 h2 _
  refine h v' w' ?_ h2
  unfold Stk
  rw [stCells_cons]
  exact h1
end Go.Proofs.Qxb6604022aDoor
