import Derived.Test.Qxb6604022aDoorBnd
import Derived.Test.Qxb6604022aDoorShelf
import Derived.WalkKit
import Derived.WalkSpells
import Derived.WalkLawsBesides
import Derived.Lib.AppendStr
import Derived.Lib.OwnKind
import Derived.Lib.OthersKept
import Derived.Lib.SliceRun
import Derived.Lib.AppendIntMem
import Derived.Deep.DeepFit
import Derived.Deep.DeepMust
import Derived.Deep.QuietTactic
import Derived.BigQuiet
namespace Go.Proofs.Qxb6604022aDoor
open Go.RowKit

theorem hide {p : Prop} (h : p) : Hid p := h
theorem ret_bool {a b : Bool} (h : a = b) : Ending.returned (.bool a) = .returned (.bool b) := by rw [h]
theorem Tryd.info5 : (Tryd.prog.info? 5).map (fun i => (i.zero, i.size, i.bytes)) = some (some (.int .u8 0), 1, 1) := by kernel_rfl

/-- The value is a FULL row of these bytes, wherever it lies: an append to it makes a new row. -/
def Full (w : World) (v : Value) (bs : List UInt8) : Prop := ∃ g cur, v = .slice (some ⟨g, 0, none⟩) bs.length bs.length ∧ w.heap[g]? = some (.cells cur 5 (0, 0)) ∧ cur.toList = Lib.byteCells bs
/-- The value owns these bytes, or is a full row of them. -/
def Own (B : Nat) (w : World) (v : Value) (bs : List UInt8) : Prop := w.ownsRow B 5 1 v bs.length (Lib.byteCells bs) ∨ Full w v bs
/-- Below B nothing has turned; of what is above, no block but rows of bytes. -/
def Kept (B : Nat) (w w' : World) : Prop := Below B w w' ∧ Lib.OthersKept 5 none w w'

theorem Kept.refl (B : Nat) (w : World) : Kept B w w := ⟨Below.refl _ _, Lib.OthersKept.refl _ _ _⟩
theorem Kept.trans {B : Nat} {a b c : World} (h : Kept B a b) (k : Kept B b c) : Kept B a c := ⟨h.1.trans k.1, h.2.trans k.2⟩
theorem Kept.size {B : Nat} {a b : World} (h : Kept B a b) : a.heap.size ≤ b.heap.size := h.1.size
theorem Kept.alloc {B : Nat} {a b : World} (h : Kept B a b) (hB : B ≤ b.heap.size) (o : Obj) : Kept B a (b.alloc o) := ⟨h.1.alloc hB o, h.2.alloc o⟩
theorem Kept.drewN {B : Nat} {a b : World} (h : Kept B a b) (n : Nat) : Kept B a (b.drewN n) := ⟨h.1.trans ⟨rfl, rfl, rfl, Nat.le_refl _, fun _ _ => rfl⟩, fun k o hk hb ho => h.2 k o hk hb ho⟩
theorem Kept.cell {B : Nat} {a b : World} (h : Kept B a b) {p : Addr} (hp : p.block < B) : b.cell? p = a.cell? p := h.1.cell hp
theorem Full.lt {w : World} {v : Value} {bs : List UInt8} (h : Full w v bs) : ∀ k, v.ownBlock = some k → k < w.heap.size := fun k hk => by
  obtain ⟨g, cur, rfl, hg, _⟩ := h
  simp only [Value.ownBlock, Option.some.injEq] at hk
  subst hk
  exact (Array.getElem?_eq_some_iff.1 hg).1
theorem Full.kind {w : World} {v : Value} {bs : List UInt8} (h : Full w v bs) : ∀ k, v.ownBlock = some k → ∃ c fz, w.heap[k]? = some (.cells c 5 fz) := fun k hk => by
  obtain ⟨g, cur, rfl, hg, _⟩ := h
  simp only [Value.ownBlock, Option.some.injEq] at hk
  subst hk
  exact ⟨_, _, hg⟩
theorem Full.keep {w w' : World} {v : Value} {bs : List UInt8} (h : Full w v bs) (hb : ∀ k, v.ownBlock = some k → w'.heap[k]? = w.heap[k]?) : Full w' v bs := by
  obtain ⟨g, cur, rfl, hg, hc⟩ := h
  exact ⟨g, cur, rfl, by rw [hb g rfl]; exact hg, hc⟩
theorem Own.lt {B : Nat} {w : World} {v : Value} {bs : List UInt8} (h : Own B w v bs) : ∀ k, v.ownBlock = some k → k < w.heap.size := by
  rcases h with h | h
  · exact fun k hk => (World.ownsRow.lt h k hk).2
  · exact h.lt
theorem Own.kind {B : Nat} {w : World} {v : Value} {bs : List UInt8} (h : Own B w v bs) : ∀ k, v.ownBlock = some k → ∃ c fz, w.heap[k]? = some (.cells c 5 fz) := by
  rcases h with h | h
  · exact Lib.ownsRow_kind h
  · exact h.kind
theorem Own.keep {B : Nat} {w w' : World} {v : Value} {bs : List UInt8} (h : Own B w v bs) (hb : ∀ k, v.ownBlock = some k → w'.heap[k]? = w.heap[k]?) : Own B w' v bs := by
  rcases h with h | h
  · refine .inl ⟨h.1, ?_⟩
    rcases h.2 with h1 | ⟨g, cap, cur, rfl, hbg, hg, rest⟩
    · exact .inl h1
    · exact .inr ⟨g, cap, cur, rfl, hbg, by rw [hb g rfl]; exact hg, rest⟩
  · exact .inr (h.keep hb)
theorem Own.alloc {B : Nat} {w : World} {v : Value} {bs : List UInt8} (h : Own B w v bs) (o : Obj) : Own B (w.alloc o) v bs := h.keep fun k hk => heap_alloc_old w o (h.lt k hk)
theorem Own.drewN {B : Nat} {w : World} {v : Value} {bs : List UInt8} (h : Own B w v bs) (n : Nat) : Own B (w.drewN n) v bs := h
theorem Own.nil (B : Nat) (w : World) : Own B w (.slice none 0 0) [] := .inl (World.ownsRow_nil _ _ _ _)
theorem Own.shape {B : Nat} {w : World} {v : Value} {bs : List UInt8} (h : Own B w v bs) : ∃ a n c, v = .slice a n c ∧ Hid (n = bs.length) := by
  rcases h with h | ⟨g, cur, rfl, _⟩
  · rcases h.2 with ⟨rfl, h0⟩ | ⟨g, cap, cur, rfl, _⟩
    · exact ⟨none, 0, 0, rfl, h0.symm⟩
    · exact ⟨_, _, _, rfl, rfl⟩
  · exact ⟨_, _, _, rfl, rfl⟩
theorem Own.mono {B B' : Nat} {w : World} {v : Value} {bs : List UInt8} (h : Own B w v bs) (hB : B' ≤ B) : Own B' w v bs := by
  rcases h with h | h
  · refine .inl ⟨h.1, ?_⟩
    rcases h.2 with h1 | ⟨g, cap, cur, e, hb, rest⟩
    · exact .inl h1
    · exact .inr ⟨g, cap, cur, e, Nat.le_trans hB hb, rest⟩
  · exact .inr h
/-- What was owned below the new base is still owned. -/
theorem Own.below {B B' : Nat} {w w' : World} {v : Value} {bs : List UInt8} (h : Own B w v bs) (hb : Below B' w w') (hB : w.heap.size ≤ B') : Own B w' v bs :=
  h.keep fun k hk => hb.block k (by have := h.lt k hk; omega)

theorem byteCells_append (l m : List UInt8) : Lib.byteCells (l ++ m) = Lib.byteCells l ++ Lib.byteCells m := by simp [Lib.byteCells]
theorem byteCells_one (l : List UInt8) : ∀ u ∈ Lib.byteCells l, u.oneCell' = true := fun u hu => by
  simp only [Lib.byteCells, List.mem_map] at hu; obtain ⟨b, _, rfl⟩ := hu; rfl

theorem Full.cells {w : World} {g : Nat} {cur : Array Value} {bs : List UInt8} (hg : w.heap[g]? = some (.cells cur 5 (0, 0))) (hc : cur.toList = Lib.byteCells bs) (j : Nat) (u : Value) (hj : (Lib.byteCells bs)[j]? = some u) : w.cell? ((⟨g, 0, none⟩ : Addr).add j) = some u := by
  have : (⟨g, 0, none⟩ : Addr).add j = ⟨g, j, none⟩ := by simp [Addr.add]; omega
  rw [this, cell_of_row w g j _ _ _ hg, ← Array.getElem?_toList, hc]
  exact hj

/-- The new row of a grown append. -/
theorem own_grown {B : Nat} {w : World} (hB : B ≤ w.heap.size) (bs t : List UInt8) (old : Nat) (hlim : bs.length + t.length ≤ 140737488355328) :
    Own B (w.drew.alloc (.cells ((Lib.byteCells bs).toArray ++ (Lib.byteCells t).toArray ++ Builtin.zeroCells (Value.int .u8 0).cells (grownCap w (bs.length + t.length) old 5 - (bs.length + t.length))) 5))
      (.slice (some ⟨w.heap.size, 0, none⟩) (bs.length + t.length) (grownCap w (bs.length + t.length) old 5)) (bs ++ t) := by
  have hge := grownCap_ge w (bs.length + t.length) old 5
  have hcm : grownCap w (bs.length + t.length) old 5 ≤ maxLen := grownCap_le_maxLen w _ old 5 (by unfold maxLen; omega)
  refine .inl ⟨by rw [Lib.byteCells_length, Nat.mul_one], .inr ⟨w.heap.size, _, _, by rw [List.length_append], hB, heap_alloc_new w.drew _, by rw [List.length_append]; exact hge, hcm, ?_, ?_⟩⟩
  · simp only [Array.size_append, List.size_toArray, size_zeroCells, Lib.byteCells_length]
    show bs.length + t.length + (grownCap w (bs.length + t.length) old 5 - (bs.length + t.length)) * 1 = _
    omega
  · simp only [Array.toList_append]
    rw [Nat.mul_one, List.length_append, ← byteCells_append]
    have : (Lib.byteCells (bs ++ t)).length = bs.length + t.length := by rw [Lib.byteCells_length, List.length_append]
    rw [← this]
    exact List.take_left
theorem kept_grown {B : Nat} {w : World} (hB : B ≤ w.heap.size) (o : Obj) : Kept B w (w.drew.alloc o) := ((Kept.refl B w).drewN 1).alloc hB o
/-- The same row laid again turns nothing. -/
theorem heap_setRow_same (w : World) (g : Nat) (cur cs : Array Value) (hg : w.heap[g]? = some (.cells cur 5 (0, 0))) (e : cs = cur) (k : Nat) : (w.setRow g cs).heap[k]? = w.heap[k]? := by
  by_cases hk : k = g
  · subst hk; rw [setRow_heap w k cur cs 5 _ hg, hg, e]
  · exact setRow_other w g k cs hk
theorem kept_setRow (B : Nat) (w : World) (g : Nat) (cur cs : Array Value) (hg : w.heap[g]? = some (.cells cur 5 (0, 0))) (e : cs = cur) : Kept B w (w.setRow g cs) :=
  ⟨⟨rfl, rfl, rfl, by simp [World.setRow], fun k _ => heap_setRow_same w g cur cs hg e k⟩, fun k o hk _ _ => by rw [heap_setRow_same w g cur cs hg e k]; exact hk⟩

theorem run_app {w : World} (ty : TypeId) (B : Nat) (v : Value) (bs : List UInt8) (hown : Own B w v bs) (t : List UInt8) (ad : Addr) (c : Nat)
    (hc : ∀ j u, (Lib.byteCells t)[j]? = some u → w.cell? (ad.add j) = some u) (hlim : bs.length + t.length ≤ 140737488355328) (hB : B ≤ w.heap.size) :
    ∃ v' w', (Builtin.append_ #[22, 22] ty #[v, .slice (some ad) t.length c]).run Tryd.prog w = .ok v' w' ∧ Own B w' v' (bs ++ t) ∧ Kept B w w' := by
  obtain ⟨i0, hi, hz0, hz1, hz2⟩ := info_parts Tryd.info5
  rcases hown with hown | ⟨g, cur, rfl, hg, hcur⟩
  · obtain ⟨v', w', hr, h1, h2, _⟩ := run_append_own (P := Tryd.prog) w B 22 ty 5 i0 (.int .u8 0) 1 1 Tryd.underlying22 hi hz0 hz1 hz2 rfl (by decide) v bs.length (Lib.byteCells bs) hown ad t.length c (Lib.byteCells t) (by rw [Lib.byteCells_length, Nat.mul_one]) hc (byteCells_one t) (by unfold maxLen; omega) (by omega) hB
    refine ⟨v', w', hr, .inl ?_, ⟨(Below.refl _ _).grown h2 hB (fun k hk => (World.ownsRow.lt hown k hk).1), (Lib.OthersKept.refl _ _ _).grown h2 (Lib.ownsRow_kind hown)⟩⟩
    rw [List.length_append, byteCells_append]
    exact h1
  · have hcs : cur.size = bs.length := by rw [← Array.length_toList, hcur, Lib.byteCells_length]
    by_cases h0 : t = []
    · subst h0
      have hr := run_append_room (P := Tryd.prog) w 22 ty 5 i0 Tryd.underlying22 hi g bs.length bs.length cur hg ad 0 c [] (by simp) (by simp) (by simp) (by omega) (by simp; rw [hz1, hcs]; omega)
      have e : (cur.toList.take (bs.length * i0.size) ++ [] ++ cur.toList.drop (bs.length * i0.size + ([] : List Value).length)).toArray = cur := by simp
      refine ⟨_, _, hr, .inr ⟨g, cur, by simp, by rw [heap_setRow_same w g cur _ hg e]; exact hg, by simpa using hcur⟩, kept_setRow B w g cur _ hg e⟩
    · have hp : 0 < t.length := List.length_pos_iff.2 h0
      have hr := run_append_grow (P := Tryd.prog) w 22 ty 5 i0 (.int .u8 0) Tryd.underlying22 hi hz0 ⟨g, 0, none⟩ bs.length bs.length (Lib.byteCells bs) (by rw [Lib.byteCells_length, hz1, Nat.mul_one]) (Full.cells hg hcur) ad t.length c (Lib.byteCells t) (by rw [Lib.byteCells_length, hz1, Nat.mul_one]) hc (by omega) (by omega) (growslice_fits (by omega) (by rw [hz2]; omega))
      exact ⟨_, _, hr, own_grown hB bs t _ hlim, kept_grown hB _⟩

theorem run_appS {w : World} (ty : TypeId) (B : Nat) (v : Value) (bs : List UInt8) (hown : Own B w v bs) (t : List UInt8) (hlim : bs.length + t.length ≤ 140737488355328) (hB : B ≤ w.heap.size) :
    ∃ v' w', (Builtin.append_ #[22, 9] ty #[v, .string ⟨t.toArray⟩]).run Tryd.prog w = .ok v' w' ∧ Own B w' v' (bs ++ t) ∧ Kept B w w' := by
  obtain ⟨i0, hi, hz0, hz1, hz2⟩ := info_parts Tryd.info5
  have hsz : (⟨t.toArray⟩ : ByteArray).size = t.length := List.size_toArray
  rcases hown with hown | ⟨g, cur, rfl, hg, hcur⟩
  · obtain ⟨v', w', hr, h1, h2, _⟩ := Lib.run_append_own_string (P := Tryd.prog) w B 22 9 ty 5 i0 Tryd.underlying22 Tryd.underlying9 hi hz0 hz1 hz2 v bs.length (Lib.byteCells bs) hown ⟨t.toArray⟩ (by rw [hsz]; unfold maxLen; omega) (by rw [hsz]; omega) hB
    refine ⟨v', w', hr, .inl ?_, ⟨(Below.refl _ _).grown h2 hB (fun k hk => (World.ownsRow.lt hown k hk).1), (Lib.OthersKept.refl _ _ _).grown h2 (Lib.ownsRow_kind hown)⟩⟩
    rw [List.length_append, byteCells_append]
    rw [hsz] at h1
    exact h1
  · have hcs : cur.size = bs.length := by rw [← Array.length_toList, hcur, Lib.byteCells_length]
    by_cases h0 : t = []
    · subst h0
      have hr := Lib.run_append_room_string (P := Tryd.prog) w 22 9 ty 5 i0 Tryd.underlying22 Tryd.underlying9 hi hz1 g bs.length bs.length cur hg ⟨#[]⟩ (Nat.le_refl _) (by rw [hcs]; exact Nat.le_refl _)
      have e : (cur.toList.take bs.length ++ Lib.strCells ⟨#[]⟩ ++ cur.toList.drop (bs.length + (⟨#[]⟩ : ByteArray).size)).toArray = cur := by
        show (cur.toList.take bs.length ++ [] ++ cur.toList.drop (bs.length + 0)).toArray = cur
        simp
      refine ⟨_, _, hr, .inr ⟨g, cur, by simp; rfl, by rw [heap_setRow_same w g cur _ hg e]; exact hg, by simpa using hcur⟩, kept_setRow B w g cur _ hg e⟩
    · have hp : 0 < t.length := List.length_pos_iff.2 h0
      have hr := Lib.run_append_grow_string (P := Tryd.prog) w 22 9 ty 5 i0 (.int .u8 0) Tryd.underlying22 Tryd.underlying9 hi hz0 ⟨g, 0, none⟩ bs.length bs.length (Lib.byteCells bs) (by rw [Lib.byteCells_length, hz1, Nat.mul_one]) (Full.cells hg hcur) ⟨t.toArray⟩ (by rw [hsz]; omega) (by rw [hsz]; omega) (by rw [hsz]; exact growslice_fits (by omega) (by rw [hz2]; omega))
      rw [hsz] at hr
      exact ⟨_, _, hr, own_grown hB bs t _ hlim, kept_grown hB _⟩

/-- APPEND OF BYTES THAT LIE SOMEWHERE. -/
theorem wp_app {w : World} {o : Oper} {a : Act} {K : Act → World → Prop} {Q : Exit → Act → World → Prop} (s x : Operand)
    (ho : o.op = .call { callee := .builtin .append, args := #[s, x], argTypes := #[22, 22] })
    (B : Nat) (v : Value) (bs : List UInt8) (hs : a.eval s = v) (hown : Own B w v bs) (t : List UInt8) (ad : Addr) (m c : Nat) (hm : m = t.length) (hx : a.eval x = .slice (some ad) m c)
    (hc : ∀ j u, (Lib.byteCells t)[j]? = some u → w.cell? (ad.add j) = some u) (hlim : bs.length + t.length ≤ 140737488355328) (hB : B ≤ w.heap.size)
    (h : ∀ v' w', Own B w' v' (bs ++ t) → Kept B w w' → K (a.put o.dst v') w') : o.wp Tryd.prog a w K Q := by
  subst hm
  obtain ⟨v', w', hr, h2, h3⟩ := run_app o.type B v bs hown t ad c hc hlim hB
  unfold Oper.wp execOp
  simp only [ho, resolve, invoke, builtin, Sem.run_bind, Sem.run_pure, Result.andThen_ok, List.map_toArray, List.map_cons, List.map_nil, hs, hx, hr]
  exact h v' w' h2 h3
theorem wpList_app {w : World} {ops : Array Oper} {rest : List Oper} {o : Oper} {a : Act} {Q : Exit → Act → World → Prop} (hgd : o.guard = none) (s x : Operand)
    (ho : o.op = .call { callee := .builtin .append, args := #[s, x], argTypes := #[22, 22] })
    (B : Nat) (v : Value) (bs : List UInt8) (hs : a.eval s = v) (hown : Own B w v bs) (t : List UInt8) (ad : Addr) (m c : Nat) (hm : m = t.length) (hx : a.eval x = .slice (some ad) m c)
    (hc : ∀ j u, (Lib.byteCells t)[j]? = some u → w.cell? (ad.add j) = some u) (hlim : bs.length + t.length ≤ 140737488355328) (hB : B ≤ w.heap.size)
    (h : ∀ v' w', Own B w' v' (bs ++ t) → Kept B w w' → wpList Tryd.prog ops Q rest (a.put o.dst v') w') : wpList Tryd.prog ops Q (o :: rest) a w :=
  wpList_plain hgd fun _ hK => wp_app s x ho B v bs hs hown t ad m c hm hx hc hlim hB fun v' w' h2 h3 => hK _ _ (h v' w' h2 h3)

/-- APPEND OF A CONSTANT STRING. -/
theorem wpList_appS {w : World} {ops : Array Oper} {rest : List Oper} {o : Oper} {a : Act} {Q : Exit → Act → World → Prop} (hgd : o.guard = none) (s x : Operand)
    (ho : o.op = .call { callee := .builtin .append, args := #[s, x], argTypes := #[22, 9] })
    (B : Nat) (v : Value) (bs : List UInt8) (hs : a.eval s = v) (hown : Own B w v bs) (t : List UInt8) (hx : a.eval x = .string ⟨t.toArray⟩)
    (hlim : bs.length + t.length ≤ 140737488355328) (hB : B ≤ w.heap.size)
    (h : ∀ v' w', Own B w' v' (bs ++ t) → Kept B w w' → wpList Tryd.prog ops Q rest (a.put o.dst v') w') : wpList Tryd.prog ops Q (o :: rest) a w := by
  refine wpList_plain hgd fun K hK => ?_
  obtain ⟨v', w', hr, h2, h3⟩ := run_appS o.type B v bs hown t hlim hB
  unfold Oper.wp execOp
  simp only [ho, resolve, invoke, builtin, Sem.run_bind, Sem.run_pure, Result.andThen_ok, List.map_toArray, List.map_cons, List.map_nil, hs, hx, hr]
  exact hK _ _ (h v' w' h2 h3)

/-- The cells of a new block of bytes. -/
theorem lit_cells (w : World) (t : List UInt8) (ty : TypeId) (j : Nat) (u : Value) (h : (Lib.byteCells t)[j]? = some u) : (w.alloc (.cells (Lib.byteCells t).toArray ty)).cell? ((⟨w.heap.size, 0, none⟩ : Addr).add j) = some u := by
  have : (⟨w.heap.size, 0, none⟩ : Addr).add j = ⟨w.heap.size, j, none⟩ := by simp [Addr.add]; omega
  rw [this, World.cell?_alloc_new]
  simpa using h

/-- What an appending call leaves. -/
def App (B : Nat) (w : World) (bs t : List UInt8) (e : Ending) (w' : World) : Prop := ∃ v', e = .returned v' ∧ Own B w' v' (bs ++ t) ∧ Kept B w w'

end Go.Proofs.Qxb6604022aDoor
