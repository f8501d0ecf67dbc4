import Derived.Test.Qxb6604022aDoorElems
import Derived.Test.Qxb6604022aDoorUint
import Derived.BigQuiet
namespace Go.Proofs.Qxb6604022aDoor
open Go.RowKit

/-- What stands when the reader begins an item whose head is (mj, arg, hn). -/
structure At (B R bd off cap : Nat) (d : List UInt8) (p : Nat) (v : Value) (bs : List UInt8) (w : World) (mj arg hn : Nat) : Prop where
  head : head (d.drop p) = some (mj, arg, hn)
  own : Own B w v bs
  rd : Rd w R (.slice (some ⟨bd, off, none⟩) d.length cap) p
  by_ : Bytes w bd off d
  size : B ≤ w.heap.size
  lim : bs.length + 24 * (d.length - p) + 60 ≤ 140737488355328
  tab : Lib.TabBelow Tryd.prog B w powName .u64 Lib.pow10Tab
  hbd : bd < B
  hBR : B ≤ R
  hl : d.length ≤ 1048576
  hlc : d.length ≤ cap

/-- What stands after the head's call. -/
structure Aft (B R bd off cap : Nat) (d : List UInt8) (p : Nat) (v : Value) (bs : List UInt8) (w w1 : World) (arg hn : Nat) : Prop where
  own : Own B w1 v bs
  rd : Rd w1 R (.slice (some ⟨bd, off, none⟩) d.length cap) (p + hn)
  by_ : Bytes w1 bd off d
  size : B ≤ w1.heap.size
  tab : Lib.TabBelow Tryd.prog B w1 powName .u64 Lib.pow10Tab
  kept : KeptR B R w w1
  n1 : 1 ≤ hn
  n2 : p + hn ≤ d.length
  a1 : arg < 18446744073709551616

theorem At.call {B R bd off cap : Nat} {d : List UInt8} {p : Nat} {v : Value} {bs : List UInt8} {w : World} {mj arg hn : Nat} (h : At B R bd off cap d p v bs w mj arg hn) :
    Calls Tryd.prog 15 #[.pointer (some ⟨R, 0, none⟩)] w fun e w1 => e = .returned (.tuple #[.int .u8 ((mj * 32 : Nat) : Int), .int .u64 (arg : Int)]) ∧ Aft B R bd off cap d p v bs w w1 arg hn := by
  have hne : bd ≠ R := by have := h.hbd; have := h.hBR; omega
  refine (head_c R bd off cap p d mj arg hn w h.rd h.hl h.hlc h.by_ hne h.head).mono ?_
  rintro e w1 ⟨rfl, hr1, hg1⟩
  have hk := KeptR.of_grown hg1 h.size h.hBR
  have hb := head_bnd h.head
  rw [List.length_drop] at hb
  exact ⟨rfl, h.own.grown hg1 (h.own.neR h.rd), hr1, h.by_.keptR hk h.hbd, by have := hk.size; have := h.size; omega, h.tab.on hk.1, hk, by omega, by omega, by omega⟩

theorem Aft.fin {B R bd off cap : Nat} {d : List UInt8} {p : Nat} {v : Value} {bs : List UInt8} {w w1 : World} {arg hn : Nat} (h : Aft B R bd off cap d p v bs w w1 arg hn) {t : List UInt8} {e : Ending} {w2 : World} (ha : App B w1 bs t e w2) :
    RApp B R (.slice (some ⟨bd, off, none⟩) d.length cap) w bs t (p + hn) e w2 := by
  obtain ⟨v', rfl, ho, hk⟩ := ha
  exact ⟨v', rfl, ho, h.rd.kept hk, h.kept.trans (hk.toR R)⟩

set_option maxHeartbeats 1000000 in
theorem json_uint {B R bd off cap : Nat} {d : List UInt8} {p : Nat} {v : Value} {bs : List UInt8} {w : World} {arg hn : Nat} (h : At B R bd off cap d p v bs w 0 arg hn) :
    Calls Tryd.prog 13 #[.pointer (some ⟨R, 0, none⟩), v] w fun e w' => RApp B R (.slice (some ⟨bd, off, none⟩) d.length cap) w bs (Lib.decDigits arg) (p + hn) e w' := by
  obtain ⟨a, m, cp, rfl, _⟩ := h.own.shape
  have HA := hide h
  clear h
  go_enter Tryd.func13, Tryd.ntmps13
  go_wp2_with fail
  refine HA.out.call.mono ?_
  rintro e w1 ⟨rfl, hF⟩
  have HF := hide hF
  clear hF
  go_wp2_with fail
  refine (appUint_any B _ bs arg w1 HF.out.a1 HF.out.own HF.out.size (by have := HA.out.lim; omega) HF.out.tab.here).mono ?_
  intro e w2 ha
  have HR := hide (HF.out.fin ha)
  obtain ⟨v2, rfl, _⟩ := ha
  go_wp2
  go_ret
  exact HR.out

set_option maxHeartbeats 1000000 in
theorem json_int {B R bd off cap : Nat} {d : List UInt8} {p : Nat} {v : Value} {bs : List UInt8} {w : World} {arg hn : Nat} (h : At B R bd off cap d p v bs w 1 arg hn) (ha : arg ≤ 9223372036854775807) :
    Calls Tryd.prog 13 #[.pointer (some ⟨R, 0, none⟩), v] w fun e w' => RApp B R (.slice (some ⟨bd, off, none⟩) d.length cap) w bs (45 :: Lib.decDigits (arg + 1)) (p + hn) e w' := by
  obtain ⟨a, m, cp, rfl, _⟩ := h.own.shape
  have HA := hide h
  clear h
  go_enter Tryd.func13, Tryd.ntmps13
  go_wp2_with fail
  refine HA.out.call.mono ?_
  rintro e w1 ⟨rfl, hF⟩
  have HF := hide hF
  clear hF
  go_wp2_with fail
  refine (appNeg_any B _ bs arg w1 ha HF.out.own HF.out.size (by have := HA.out.lim; omega) HF.out.tab).mono ?_
  intro e w2 ha
  have HR := hide (HF.out.fin ha)
  obtain ⟨v2, rfl, _⟩ := ha
  go_wp2
  go_ret
  exact HR.out

set_option maxHeartbeats 1000000 in
theorem json_els {f B R bd off cap : Nat} {d : List UInt8} {p : Nat} {v : Value} {bs : List UInt8} {w : World} {arg hn : Nat} (hIH : RdSpec f B R bd off cap d) (h : At B R bd off cap d p v bs w 4 arg hn) {t : List UInt8} {n : Nat} (he : elems (item f) false arg true (d.drop (p + hn)) = some (t, n)) :
    Calls Tryd.prog 13 #[.pointer (some ⟨R, 0, none⟩), v] w fun e w' => RApp B R (.slice (some ⟨bd, off, none⟩) d.length cap) w bs (91 :: (t ++ [93])) (p + (hn + n)) e w' := by
  obtain ⟨a, m, cp, rfl, _⟩ := h.own.shape
  have HA := hide h
  have HI := hide hIH
  have HE := hide he
  clear h hIH he
  go_enter Tryd.func13, Tryd.ntmps13
  go_wp2_with fail
  refine HA.out.call.mono ?_
  rintro e w1 ⟨rfl, hF⟩
  have HF := hide hF
  clear hF
  go_wp2_with fail
  refine (elems_any f B R bd off cap d HI.out HA.out.hbd false (p + hn) arg _ bs 91 93 w1 t n HF.out.a1 HE.out HF.out.n2 HF.out.own HF.out.rd HF.out.by_ HF.out.size (by have := HA.out.lim; have := HF.out.n1; have := HF.out.n2; omega) HF.out.tab).mono ?_
  rintro e w2 ⟨v2, rfl, ho, hr, hk⟩
  have HR : Hid (RApp B R (.slice (some ⟨bd, off, none⟩) d.length cap) w bs (91 :: (t ++ [93])) (p + (hn + n)) (.returned v2) w2) := hide ⟨v2, rfl, ho, by rw [← Nat.add_assoc]; exact hr, HF.out.kept.trans hk⟩
  clear ho hr hk
  go_wp2
  go_ret
  exact HR.out

set_option maxHeartbeats 1000000 in
theorem json_map {f B R bd off cap : Nat} {d : List UInt8} {p : Nat} {v : Value} {bs : List UInt8} {w : World} {arg hn : Nat} (hIH : RdSpec f B R bd off cap d) (h : At B R bd off cap d p v bs w 5 arg hn) {t : List UInt8} {n : Nat} (he : elems (item f) true arg true (d.drop (p + hn)) = some (t, n)) :
    Calls Tryd.prog 13 #[.pointer (some ⟨R, 0, none⟩), v] w fun e w' => RApp B R (.slice (some ⟨bd, off, none⟩) d.length cap) w bs (123 :: (t ++ [125])) (p + (hn + n)) e w' := by
  obtain ⟨a, m, cp, rfl, _⟩ := h.own.shape
  have HA := hide h
  have HI := hide hIH
  have HE := hide he
  clear h hIH he
  go_enter Tryd.func13, Tryd.ntmps13
  go_wp2_with fail
  refine HA.out.call.mono ?_
  rintro e w1 ⟨rfl, hF⟩
  have HF := hide hF
  clear hF
  go_wp2_with fail
  refine (elems_any f B R bd off cap d HI.out HA.out.hbd true (p + hn) arg _ bs 123 125 w1 t n HF.out.a1 HE.out HF.out.n2 HF.out.own HF.out.rd HF.out.by_ HF.out.size (by have := HA.out.lim; have := HF.out.n1; have := HF.out.n2; omega) HF.out.tab).mono ?_
  rintro e w2 ⟨v2, rfl, ho, hr, hk⟩
  have HR : Hid (RApp B R (.slice (some ⟨bd, off, none⟩) d.length cap) w bs (123 :: (t ++ [125])) (p + (hn + n)) (.returned v2) w2) := hide ⟨v2, rfl, ho, by rw [← Nat.add_assoc]; exact hr, HF.out.kept.trans hk⟩
  clear ho hr hk
  go_wp2
  go_ret
  exact HR.out

theorem Bytes.sub {w : World} {b o : Nat} {l : List UInt8} (h : Bytes w b o l) (k m : Nat) : Bytes w b (o + k) ((l.drop k).take m) := fun i hi => by
  have hi2 : k + i < l.length := by rw [List.length_take, List.length_drop] at hi; omega
  rw [show o + k + i = o + (k + i) from by omega, h (k + i) hi2]
  simp

theorem grownBy_refl' (w : World) (R : Nat) : w.grownBy w (some R) := ⟨rfl, rfl, rfl, Nat.le_refl _, fun _ _ _ => rfl⟩

/-- What stands after the text has been passed over. -/
structure Past (B R bd off cap : Nat) (d : List UInt8) (p : Nat) (v : Value) (bs : List UInt8) (w w2 : World) (n : Nat) : Prop where
  own : Own B w2 v bs
  rd : Rd w2 R (.slice (some ⟨bd, off, none⟩) d.length cap) (p + n)
  by_ : Bytes w2 bd off d
  size : B ≤ w2.heap.size
  kept : KeptR B R w w2

theorem Aft.past {B R bd off cap : Nat} {d : List UInt8} {p : Nat} {v : Value} {bs : List UInt8} {w w1 : World} {arg hn : Nat} (h : Aft B R bd off cap d p v bs w w1 arg hn) (hbd : bd < B) (hBR : B ≤ R) (nq q : Nat) (hq : q = p + hn) :
    Past B R bd off cap d p v bs w ((w1.drewN nq).setCell ⟨R, 1, none⟩ (.int .i64 ((q : Int) + (arg : Int)))) (hn + arg) := by
  have hg : w1.grownBy ((w1.drewN nq).setCell ⟨R, 1, none⟩ (.int .i64 ((q : Int) + (arg : Int)))) (some R) := grown_trans (grown_drewN (grownBy_refl' w1 R) nq) (grown_setCell _ _ _)
  have hk := KeptR.of_grown hg h.size hBR
  refine ⟨h.own.grown hg (h.own.neR h.rd), ?_, h.by_.keptR hk hbd, by have := hk.size; have := h.size; omega, h.kept.trans hk⟩
  rw [show (q : Int) + (arg : Int) = ((p + (hn + arg) : Nat) : Int) from by omega]
  exact (h.rd.drewN nq).set _

theorem Past.fin {B R bd off cap : Nat} {d : List UInt8} {p : Nat} {v : Value} {bs : List UInt8} {w w1 : World} {n : Nat} (h : Past B R bd off cap d p v bs w w1 n) {t : List UInt8} {e : Ending} {w2 : World} (ha : App B w1 bs t e w2) :
    RApp B R (.slice (some ⟨bd, off, none⟩) d.length cap) w bs t (p + n) e w2 := by
  obtain ⟨v', rfl, ho, hk⟩ := ha
  exact ⟨v', rfl, ho, h.rd.kept hk, h.kept.trans (hk.toR R)⟩

set_option maxHeartbeats 1000000 in
theorem json_text {B R bd off cap : Nat} {d : List UInt8} {p : Nat} {v : Value} {bs : List UInt8} {w : World} {arg hn : Nat} (h : At B R bd off cap d p v bs w 3 arg hn) (hx : p + hn + arg ≤ d.length) (ha0 : 0 < arg) :
    Calls Tryd.prog 13 #[.pointer (some ⟨R, 0, none⟩), v] w fun e w' => RApp B R (.slice (some ⟨bd, off, none⟩) d.length cap) w bs (34 :: (escs ((d.drop (p + hn)).take arg) ++ [34])) (p + (hn + arg)) e w' := by
  obtain ⟨a, m, cp, rfl, _⟩ := h.own.shape
  have hl := h.hl
  have hlc := h.hlc
  have HA := hide h
  clear h
  go_enter Tryd.func13, Tryd.ntmps13
  go_wp2_with fail
  refine HA.out.call.mono ?_
  rintro e w1 ⟨rfl, hF⟩
  have HF := hide hF
  have hc0 := hF.rd.c0
  have hc1 := hF.rd.c1
  have hf1 := hF.rd.f1
  clear hF
  obtain ⟨q, eq⟩ : ∃ q, q = p + hn := ⟨_, rfl⟩
  obtain ⟨dl, edl⟩ : ∃ dl, dl = d.length := ⟨_, rfl⟩
  rw [← eq] at hc1 hx
  rw [← edl] at hc0 hx hl hlc
  have HQ := hide eq
  have HDL := hide edl
  clear eq edl
  have hcq : ¬ cap = q := by omega
  go_wp2_with (go_quiet (fail))
  have hP := HF.out.past HA.out.hbd HA.out.hBR nq q HQ.out
  have htx : Bytes ((w1.drewN nq).setCell ⟨R, 1, none⟩ (.int .i64 ((q : Int) + (arg : Int)))) bd (off + q) ((d.drop (p + hn)).take arg) := by
    have := hP.by_.sub q arg
    rw [HQ.out] at this ⊢
    exact this
  refine (str_some B _ bs ((d.drop (p + hn)).take arg) bd (off + q) arg (cap - q) _ (by rw [List.length_take, List.length_drop]; have := HQ.out; have := HDL.out; omega) (by omega) ha0 (by omega) hP.own hP.size HA.out.hbd htx (by have := HA.out.lim; have := HQ.out; have := HDL.out; have := HF.out.n1; omega)).mono ?_
  intro e w2 ha
  have HR := hide (hP.fin ha)
  obtain ⟨v2, rfl, _⟩ := ha
  clear hP htx
  go_wp2
  go_ret
  exact HR.out

set_option maxHeartbeats 1000000 in
theorem json_text0 {B R bd off cap : Nat} {d : List UInt8} {p : Nat} {v : Value} {bs : List UInt8} {w : World} {arg hn : Nat} (h : At B R bd off cap d p v bs w 3 arg hn) (hx : p + hn + arg ≤ d.length) (ha0 : arg = 0) :
    Calls Tryd.prog 13 #[.pointer (some ⟨R, 0, none⟩), v] w fun e w' => RApp B R (.slice (some ⟨bd, off, none⟩) d.length cap) w bs [34, 34] (p + (hn + arg)) e w' := by
  obtain ⟨a, m, cp, rfl, _⟩ := h.own.shape
  have hl := h.hl
  have hlc := h.hlc
  have HA := hide h
  clear h
  go_enter Tryd.func13, Tryd.ntmps13
  go_wp2_with fail
  refine HA.out.call.mono ?_
  rintro e w1 ⟨rfl, hF⟩
  have HF := hide hF
  have hc0 := hF.rd.c0
  have hc1 := hF.rd.c1
  have hf1 := hF.rd.f1
  clear hF
  obtain ⟨q, eq⟩ : ∃ q, q = p + hn := ⟨_, rfl⟩
  obtain ⟨dl, edl⟩ : ∃ dl, dl = d.length := ⟨_, rfl⟩
  rw [← eq] at hc1 hx
  rw [← edl] at hc0 hx hl hlc
  have HQ := hide eq
  have HDL := hide edl
  have HZ := hide ha0
  clear eq edl ha0
  go_wp2_with (go_quiet (fail))
  all_goals
    have hP := HF.out.past HA.out.hbd HA.out.hBR nq q HQ.out
    have hz := HZ.out
    subst hz
    refine (str_zero B _ bs _ _ _ hP.own hP.size (by have := HA.out.lim; omega)).mono ?_
    intro e w2 ha
    have HR := hide (hP.fin ha)
    obtain ⟨v2, rfl, _⟩ := ha
    clear hP
    go_wp2
    go_ret
    exact HR.out

set_option maxHeartbeats 1000000 in
theorem json_lit {B R bd off cap : Nat} {d : List UInt8} {p : Nat} {v : Value} {bs : List UInt8} {w : World} {arg hn : Nat} (h : At B R bd off cap d p v bs w 7 arg hn) (hp : p < d.length) (h1 : hn = 1) (t : List UInt8) (ht : lit7 d[p].toNat = some t) :
    Calls Tryd.prog 13 #[.pointer (some ⟨R, 0, none⟩), v] w fun e w' => RApp B R (.slice (some ⟨bd, off, none⟩) d.length cap) w bs t (p + hn) e w' := by
  obtain ⟨a, m, cp, rfl, _⟩ := h.own.shape
  have hl := h.hl
  have hlc := h.hlc
  have hlim := h.lim
  subst h1
  have HA := hide h
  clear h
  go_enter Tryd.func13, Tryd.ntmps13
  go_wp2_with fail
  refine HA.out.call.mono ?_
  rintro e w1 ⟨rfl, hF⟩
  have HF := hide hF
  have hc0 := hF.rd.c0
  have hc1 := hF.rd.c1
  have hby := hF.by_ p hp
  have hsz := hF.size
  clear hF
  obtain ⟨dl, edl⟩ : ∃ dl, dl = d.length := ⟨_, rfl⟩
  rw [← edl] at hc0 hl hlc hlim
  have hp' : p < dl := by omega
  have HDL := hide edl
  clear edl
  obtain ⟨c, ec⟩ : ∃ c, c = d[p].toNat := ⟨_, rfl⟩
  rw [← ec] at hby ht
  clear ec
  unfold lit7 at ht
  rw [show ((p + 1 : Nat) : Int) = (p : Int) + 1 from by omega] at hc1
  have hpw : IntKind.i64.wrap ((p : Int) + 1 - 1) = p := by rw [show (p : Int) + 1 - 1 = p from by omega, IntKind.wrap_i64]; omega
  have HW := hide HF.out.own
  by_cases c4 : c = 244
  · rw [if_pos c4] at ht
    obtain rfl := Option.some.inj ht
    subst c4
    go_wp2_with (first | go_quiet (fail) | (at_builtin; refine wpList_appS rfl (.tmp 29) _ rfl B _ bs rfl HW.out [102, 97, 108, 115, 101] rfl (by simp; omega) hsz ?_; intro v2 w2 ho hk))
    have HR := hide (HF.out.fin (t := [102, 97, 108, 115, 101]) (e := .returned v2) (w2 := w2) ⟨v2, rfl, ho, ((Kept.refl B w1).drewN _).trans hk⟩)
    clear ho hk
    go_wp2
    go_ret
    exact HR.out
  · rw [if_neg c4] at ht
    by_cases c5 : c = 245
    · rw [if_pos c5] at ht
      obtain rfl := Option.some.inj ht
      subst c5
      go_wp2_with (first | go_quiet (fail) | (at_builtin; refine wpList_appS rfl (.tmp 33) _ rfl B _ bs rfl HW.out [116, 114, 117, 101] rfl (by simp; omega) hsz ?_; intro v2 w2 ho hk))
      have HR := hide (HF.out.fin (t := [116, 114, 117, 101]) (e := .returned v2) (w2 := w2) ⟨v2, rfl, ho, ((Kept.refl B w1).drewN _).trans hk⟩)
      clear ho hk
      go_wp2
      go_ret
      exact HR.out
    · rw [if_neg c5] at ht
      by_cases c6 : c = 246
      · rw [if_pos c6] at ht
        obtain rfl := Option.some.inj ht
        subst c6
        go_wp2_with (first | go_quiet (fail) | (at_builtin; refine wpList_appS rfl (.tmp 25) _ rfl B _ bs rfl HW.out [110, 117, 108, 108] rfl (by simp; omega) hsz ?_; intro v2 w2 ho hk))
        have HR := hide (HF.out.fin (t := [110, 117, 108, 108]) (e := .returned v2) (w2 := w2) ⟨v2, rfl, ho, ((Kept.refl B w1).drewN _).trans hk⟩)
        clear ho hk
        go_wp2
        go_ret
        exact HR.out
      · rw [if_neg c6] at ht
        cases ht

theorem head_lit {l : List UInt8} {arg hn : Nat} (h : head l = some (7, arg, hn)) {t : List UInt8} (ht : lit7 ((l.headD 0).toNat) = some t) : hn = 1 := by
  cases l with
  | nil => simp [head] at h
  | cons c r =>
    simp only [List.headD_cons] at ht
    have hc : c.toNat = 244 ∨ c.toNat = 245 ∨ c.toNat = 246 := by
      unfold lit7 at ht
      split at ht
      · omega
      · split at ht
        · omega
        · split at ht
          · omega
          · cases ht
    rw [head_cons, if_pos (by omega)] at h
    simp only [Option.some.injEq, Prod.mk.injEq] at h
    omega

/-- THE READER READS: the item's text is appended, the position moves over it. -/
theorem reads (B R bd off cap : Nat) (d : List UInt8) (hbd : bd < B) (hBR : B ≤ R) (hl : d.length ≤ 1048576) (hlc : d.length ≤ cap) : ∀ f, RdSpec f B R bd off cap d
  | 0 => fun p v bs w t n h => by simp [item] at h
  | f + 1 => fun p v bs w t n h hown hrd hby hB hlim htab => by
    have IH := reads B R bd off cap d hbd hBR hl hlc f
    rw [item] at h
    cases hh : head (d.drop p) with
    | none => rw [hh] at h; cases h
    | some y =>
      obtain ⟨mj, arg, hn⟩ := y
      rw [hh] at h
      simp only at h
      have hA : At B R bd off cap d p v bs w mj arg hn := ⟨hh, hown, hrd, hby, hB, hlim, htab, hbd, hBR, hl, hlc⟩
      have hb := head_bnd hh
      rw [List.length_drop] at hb
      rw [List.drop_drop] at h
      by_cases c0 : mj = 0
      · rw [if_pos c0] at h
        simp only [Option.some.injEq, Prod.mk.injEq] at h
        obtain ⟨rfl, rfl⟩ := h
        subst c0
        exact json_uint hA
      rw [if_neg c0] at h
      by_cases c1 : mj = 1
      · rw [if_pos c1] at h
        subst c1
        split at h
        · simp only [Option.some.injEq, Prod.mk.injEq] at h
          obtain ⟨rfl, rfl⟩ := h
          exact json_int hA ‹_›
        · cases h
      rw [if_neg c1] at h
      by_cases c3 : mj = 3
      · rw [if_pos c3] at h
        subst c3
        split at h
        · rename_i hx
          rw [List.length_drop] at hx
          simp only [Option.some.injEq, Prod.mk.injEq] at h
          obtain ⟨rfl, rfl⟩ := h
          by_cases a0 : arg = 0
          · have := json_text0 hA (by omega) a0
            rw [a0] at this ⊢
            simpa [escs] using this
          · exact json_text hA (by omega) (by omega)
        · cases h
      rw [if_neg c3] at h
      by_cases c4 : mj = 4
      · rw [if_pos c4] at h
        subst c4
        split at h
        · cases h
        · rename_i t1 n1 he
          simp only [Option.some.injEq, Prod.mk.injEq] at h
          obtain ⟨rfl, rfl⟩ := h
          exact json_els IH hA he
      rw [if_neg c4] at h
      by_cases c5 : mj = 5
      · rw [if_pos c5] at h
        subst c5
        split at h
        · cases h
        · rename_i t1 n1 he
          simp only [Option.some.injEq, Prod.mk.injEq] at h
          obtain ⟨rfl, rfl⟩ := h
          exact json_map IH hA he
      rw [if_neg c5] at h
      by_cases c7 : mj = 7
      · rw [if_pos c7] at h
        subst c7
        split at h
        · cases h
        · rename_i t1 ht
          simp only [Option.some.injEq, Prod.mk.injEq] at h
          obtain ⟨rfl, rfl⟩ := h
          have hp : p < d.length := by omega
          have h1 := head_lit hh ht
          rw [List.drop_eq_getElem_cons hp, List.headD_cons] at ht
          exact json_lit hA hp h1 _ ht
      rw [if_neg c7] at h
      cases h
end Go.Proofs.Qxb6604022aDoor
