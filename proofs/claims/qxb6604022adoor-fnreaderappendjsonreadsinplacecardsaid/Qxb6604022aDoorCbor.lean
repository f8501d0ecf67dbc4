import Derived.Test.Qxb6604022aDoorCbor0
namespace Go.Proofs.Qxb6604022aDoor
open Go.RowKit

set_option maxHeartbeats 100000000 in
set_option maxRecDepth 20000 in
theorem cbor_in (B bd off n c pos : Nat) (d bs : List UInt8) (v : Value) (w : World) (hn : n = d.length) (hn2 : n ≤ 1048576) (hp : pos < n) (hby : Bytes w bd off d) (hbd : bd < B) (hB : B ≤ w.heap.size) (hcl : (v = .slice none 0 0 ∧ bs = []) ∨ Full w v bs) (hbl : bs.length ≤ 1048576) :
    Calls Tryd.prog 7 #[.slice (some ⟨bd, off, none⟩) n c, .int .i64 (pos : Int), v] w fun e w' => CPost B d bs (pos : Int) w e w' := by
  have HN := hide hn
  have HBY := hide hby
  have hcall : Calls Tryd.prog 6 #[v] w fun e w' => ∃ v', e = .returned v' ∧ Own B w' v' bs ∧ Below w.heap.size w w' := by
    rcases hcl with ⟨rfl, rfl⟩ | ⟨g, cur, rfl, hg, hcur⟩
    · exact (clone_nil w).mono fun e w' h => ⟨_, h.1, Own.nil _ _, by rw [h.2]; exact Below.refl _ _⟩
    · refine (clone_some g 0 bs.length bs.length bs w rfl hbl ?_).mono fun e w' ⟨v', h1, h2, h3⟩ => ⟨v', h1, .inr h2, h3⟩
      intro i hi
      have := Full.cells hg hcur i (.int .u8 bs[i].toNat) (by simp [Lib.byteCells, hi])
      have e : (⟨g, 0, none⟩ : Addr).add i = ⟨g, 0 + i, none⟩ := by simp [Addr.add]; omega
      rw [e] at this
      exact this
  obtain ⟨va, vm, vc, rfl⟩ : ∃ a m c, v = .slice a m c := by
    rcases hcl with ⟨rfl, _⟩ | ⟨g, cur, rfl, _⟩
    · exact ⟨_, _, _, rfl⟩
    · exact ⟨_, _, _, rfl⟩
  have HC := hide hcall
  clear hn hby hcall hcl
  go_enter Tryd.func7, Tryd.ntmps7
  go_wp2_with fail
  go_at_call 6
  refine HC.out.mono ?_
  rintro e w1 ⟨v1, rfl, ho1, hb1⟩
  have HS1 : Hid (CSt B d bs pos w w1 v1 (.slice none 0 0) pos bs []) := hide ⟨ho1, Stk.nil _ _, hb1.mono hB, Good.start d bs pos, by simp, by simp, Nat.le_refl _, by rw [← HN.out]; omega⟩
  clear ho1 hb1
  go_wp2_with fail
  go_loopg [9, 10, 11] (d.length - pos) (fun k o q s wr => CRel B d bs pos w k o q s wr)
  case atStart => exact ⟨pos, bs, [], rfl, HS1.out, rfl⟩
  case round =>
    rename_i J0 K0 hJ0 hK0
    have hJ0' := fun (gk : Nat) (wx : World) u0 u1 u2 u3 u4 u5 u6 u7 u8 u9 u10 u11 u12 u13 u14 u15 u16 u17 u18 u19 u20 u21 u22 u23 u24 u25 u26 u27 u28 u29 u30 u31 u32 u33 u34 u35 u36 u37 u38 u39 u40 u41 u42 u43 u44 u45 u46 u47 u48 u49 u50 u51 u52 u53 u54 u55 u56 u57 u58 u59 u60 u61 u62 u63 u64 u65 u66 u67 u68 u69 u70 u71 u72 u73 u74 u75 u76 u77 u78 u79 u80 u81 u82 u83 u84 u85 u86 u87 u88 u89 u90 u91 u92 u93 u94 u95 u96 u97 u98 u99 u100 u101 u102 u103 u104 u105 u106 u107 u108 u109 u110 u111 u112 u113 u114 u115 u116 u117 u118 u119 u120 u121 u122 u123 u124 u125 u126 u127 u128 u129 u130 u131 u132 u133 u134 u135 u136 u137 u138 u139 u140 u141 u142 u143 u144 u145 u146 u147 u148 u149 u150 u151 u152 u153 u154 u155 u156 u157 u158 u159 u160 u161 u162 u163 u164 u165 u166 u167 u168 u169 u170 u171 u172 u173 u174 u175 u176 u177 u178 u179 u180 u181 u182 u183 u184 u185 u186 u187 u188 u189 u190 u191 u192 u193 u194 u195 u196 u197 u198 u199 u200 u201 u202 u203 u204 u205 u206 u207 u208 u209 u210 u211 u212 u213 u214 u215 u216 u217 u218 u219 h => hJ0 gk _ wx ⟨u0, u1, u2, u3, u4, u5, u6, u7, u8, u9, u10, u11, u12, u13, u14, u15, u16, u17, u18, u19, u20, u21, u22, u23, u24, u25, u26, u27, u28, u29, u30, u31, u32, u33, u34, u35, u36, u37, u38, u39, u40, u41, u42, u43, u44, u45, u46, u47, u48, u49, u50, u51, u52, u53, u54, u55, u56, u57, u58, u59, u60, u61, u62, u63, u64, u65, u66, u67, u68, u69, u70, u71, u72, u73, u74, u75, u76, u77, u78, u79, u80, u81, u82, u83, u84, u85, u86, u87, u88, u89, u90, u91, u92, u93, u94, u95, u96, u97, u98, u99, u100, u101, u102, u103, u104, u105, u106, u107, u108, u109, u110, u111, u112, u113, u114, u115, u116, u117, u118, u119, u120, u121, u122, u123, u124, u125, u126, u127, u128, u129, u130, u131, u132, u133, u134, u135, u136, u137, u138, u139, u140, u141, u142, u143, u144, u145, u146, u147, u148, u149, u150, u151, u152, u153, u154, u155, u156, u157, u158, u159, u160, u161, u162, u163, u164, u165, u166, u167, u168, u169, u170, u171, u172, u173, u174, u175, u176, u177, u178, u179, u180, u181, u182, u183, u184, u185, u186, u187, u188, u189, u190, u191, u192, u193, u194, u195, u196, u197, u198, u199, u200, u201, u202, u203, u204, u205, u206, u207, u208, u209, u210, u211, u212, u213, u214, u215, u216, u217, u218, u219, h, rfl⟩
    clear HS1
    obtain ⟨p, out, fs, rfl, hS, rfl⟩ := hrel
    have HS := hide hS
    have hp1 := hS.p1
    clear hS
    by_cases hpn : p < n
    · have hpd : p < d.length := by rw [← HN.out]; exact hpn
      have hc := (HBY.out.below HS.out.below hbd) p hpd
      have HD := hide (show d.drop p = d[p] :: d.drop (p + 1) from List.drop_eq_getElem_cons hpd)
      have hx := UInt8.toNat_lt d[p]
      obtain ⟨x, ex⟩ : ∃ x, x = d[p].toNat := ⟨_, rfl⟩
      rw [← ex] at hc hx
      have HX := hide ex
      clear ex
      obtain ⟨sa, sn, sc, rfl, HSN⟩ := HS.out.stk.shape
      obtain ⟨oa, on, oc, rfl, HON⟩ := HS.out.own.shape
      go_upto_if 50 with fail
      go_cut [10, 15] from 35 to 236 (fun q ar wx => HRel d p x wr q ar wx)
      case first =>
        rename_i J1 K1 hJ1 hK1
        have hJ1' := fun (wx : World) u0 u1 u2 u3 u4 u5 u6 u7 u8 u9 u10 u11 u12 u13 u14 u15 u16 u17 u18 u19 u20 u21 u22 u23 u24 u25 u26 u27 u28 u29 u30 u31 u32 u33 u34 u35 u36 u37 u38 u39 u40 u41 u42 u43 u44 u45 u46 u47 u48 u49 u50 u51 u52 u53 u54 u55 u56 u57 u58 u59 u60 u61 u62 u63 u64 u65 u66 u67 u68 u69 u70 u71 u72 u73 u74 u75 u76 u77 u78 u79 u80 u81 u82 u83 u84 u85 u86 u87 u88 u89 u90 u91 u92 u93 u94 u95 u96 u97 u98 u99 u100 u101 u102 u103 u104 u105 u106 u107 u108 u109 u110 u111 u112 u113 u114 u115 u116 u117 u118 u119 u120 u121 u122 u123 u124 u125 u126 u127 u128 u129 u130 u131 u132 u133 u134 u135 u136 u137 u138 u139 u140 u141 u142 u143 u144 u145 u146 u147 u148 u149 u150 u151 u152 u153 u154 u155 u156 u157 u158 u159 u160 u161 u162 u163 u164 u165 u166 u167 u168 u169 u170 u171 u172 u173 u174 u175 u176 u177 u178 u179 u180 u181 u182 u183 u184 u185 u186 u187 u188 u189 u190 u191 u192 u193 u194 u195 u196 u197 u198 u199 u200 u201 u202 u203 u204 u205 u206 u207 u208 h => hJ1 _ wx ⟨u0, u1, u2, u3, u4, u5, u6, u7, u8, u9, u10, u11, u12, u13, u14, u15, u16, u17, u18, u19, u20, u21, u22, u23, u24, u25, u26, u27, u28, u29, u30, u31, u32, u33, u34, u35, u36, u37, u38, u39, u40, u41, u42, u43, u44, u45, u46, u47, u48, u49, u50, u51, u52, u53, u54, u55, u56, u57, u58, u59, u60, u61, u62, u63, u64, u65, u66, u67, u68, u69, u70, u71, u72, u73, u74, u75, u76, u77, u78, u79, u80, u81, u82, u83, u84, u85, u86, u87, u88, u89, u90, u91, u92, u93, u94, u95, u96, u97, u98, u99, u100, u101, u102, u103, u104, u105, u106, u107, u108, u109, u110, u111, u112, u113, u114, u115, u116, u117, u118, u119, u120, u121, u122, u123, u124, u125, u126, u127, u128, u129, u130, u131, u132, u133, u134, u135, u136, u137, u138, u139, u140, u141, u142, u143, u144, u145, u146, u147, u148, u149, u150, u151, u152, u153, u154, u155, u156, u157, u158, u159, u160, u161, u162, u163, u164, u165, u166, u167, u168, u169, u170, u171, u172, u173, u174, u175, u176, u177, u178, u179, u180, u181, u182, u183, u184, u185, u186, u187, u188, u189, u190, u191, u192, u193, u194, u195, u196, u197, u198, u199, u200, u201, u202, u203, u204, u205, u206, u207, u208, h, rfl⟩
        by_cases hi : x % 32 < 24
        · as_aux_lemma =>
          go_wp2
          refine Met.intro (hJ1' _ _ _ _ _ _ _ _ _ _ _ _ _ _ _ _ _ _ _ _ _ _ _ _ _ _ _ _ _ _ _ _ _ _ _ _ _ _ _ _ _ _ _ _ _ _ _ _ _ _ _ _ _ _ _ _ _ _ _ _ _ _ _ _ _ _ _ _ _ _ _ _ _ _ _ _ _ _ _ _ _ _ _ _ _ _ _ _ _ _ _ _ _ _ _ _ _ _ _ _ _ _ _ _ _ _ _ _ _ _ _ _ _ _ _ _ _ _ _ _ _ _ _ _ _ _ _ _ _ _ _ _ _ _ _ _ _ _ _ _ _ _ _ _ _ _ _ _ _ _ _ _ _ _ _ _ _ _ _ _ _ _ _ _ _ _ _ _ _ _ _ _ _ _ _ _ _ _ _ _ _ _ _ _ _ _ _ _ _ _ _ _ _ _ _ _ _ _ _ _ _ _ _ _ _ _ _ _ _ _ ?rel)
          case rel =>
            refine ⟨x % 32, 1, by go_num, by go_num, ?_, rfl⟩
            rw [HD.out, head_cons, ← HX.out, if_pos hi]
        · by_cases hi2 : x % 32 ≤ 27
          · have hcase : ((x : Int) % 32 = 24 ∧ 2 ^ (x % 32 - 24) = 1) ∨ ((x : Int) % 32 = 25 ∧ 2 ^ (x % 32 - 24) = 2) ∨ ((x : Int) % 32 = 26 ∧ 2 ^ (x % 32 - 24) = 4) ∨ ((x : Int) % 32 = 27 ∧ 2 ^ (x % 32 - 24) = 8) := by
              have : x % 32 = 24 ∨ x % 32 = 25 ∨ x % 32 = 26 ∨ x % 32 = 27 := by omega
              rcases this with h | h | h | h <;> simp [h] <;> omega
            obtain ⟨z, ez⟩ : ∃ z, z = 2 ^ (x % 32 - 24) := ⟨_, rfl⟩
            rw [← ez] at hcase
            have HZ := hide ez
            clear ez
            by_cases hz : p + 1 + z ≤ n
            · have HTL : Hid (((d.drop (p + 1)).take z).length = z) := hide (by rw [List.length_take, List.length_drop, ← HN.out]; omega)
              have HHD : Hid (head (d.drop p) = some (x / 32, beNat 0 ((d.drop (p + 1)).take z), 1 + z)) := hide (by
                rw [HD.out, head_cons, ← HX.out, if_neg hi, if_pos hi2, if_pos (by rw [← HZ.out, List.length_drop, ← HN.out]; omega), ← HZ.out])
              have HTB := hide (bytes_sub (HBY.out.below HS.out.below hbd) (p + 1) z)
              obtain ⟨tl, et⟩ : ∃ tl, tl = (d.drop (p + 1)).take z := ⟨_, rfl⟩
              rw [← et] at HTL HHD HTB
              clear et
              have hz8 : z ≤ 8 := by omega
              rcases hcase with ⟨hm, rfl⟩ | ⟨hm, rfl⟩ | ⟨hm, rfl⟩ | ⟨hm, rfl⟩
              all_goals as_aux_lemma =>
                go_wp2_with fail
                go_loopg [15, 17] 8 (fun gk g j wq => ∃ k : Nat, k ≤ tl.length ∧ j = .int .i64 k ∧ g = .int .u64 ((beNat 0 (tl.take k) : Nat) : Int) ∧ wq = wr ∧ gk = 8 - k)
                case atStart => exact ⟨0, Nat.zero_le _, rfl, rfl, rfl, rfl⟩
                case round =>
                  obtain ⟨k, hk, rfl, rfl, rfl, rfl⟩ := hrel
                  have hzl := HTL.out
                  by_cases hlt : k < tl.length
                  · have hb56 := be56 tl k (by omega)
                    have ck := HTB.out k hlt
                    have HSC : Hid (beNat 0 (tl.take (k + 1)) = beNat 0 (tl.take k) * 256 + tl[k].toNat) := hide (by rw [take_succ' tl k hlt, beNat_snoc])
                    have hcl := UInt8.toNat_lt tl[k]
                    obtain ⟨y, ey⟩ : ∃ y, y = beNat 0 (tl.take k) := ⟨_, rfl⟩
                    obtain ⟨cc, ec⟩ : ∃ cc, cc = tl[k].toNat := ⟨_, rfl⟩
                    rw [← ey] at hb56 HSC ⊢
                    rw [← ec] at hcl HSC ck
                    clear ey ec
                    have HOR := hide (or_add y cc hb56 (by omega))
                    rw [Nat.add_assoc off (p + 1) k] at ck
                    go_wp2
                    go_roundg (8 - (k + 1))
                    case rel => exact ⟨k + 1, by omega, by go_num, by rw [HOR.out, HSC.out], rfl, rfl⟩
                    case measure => omega
                  · have HF : Hid (beNat 0 (tl.take k) = beNat 0 tl) := hide (by rw [List.take_of_length_le (by omega)])
                    rw [HF.out]
                    obtain ⟨y, ey⟩ : ∃ y, y = beNat 0 tl := ⟨_, rfl⟩
                    rw [← ey] at HHD ⊢
                    clear ey HF
                    go_wp2
                    refine Met.intro (hJ1' _ _ _ _ _ _ _ _ _ _ _ _ _ _ _ _ _ _ _ _ _ _ _ _ _ _ _ _ _ _ _ _ _ _ _ _ _ _ _ _ _ _ _ _ _ _ _ _ _ _ _ _ _ _ _ _ _ _ _ _ _ _ _ _ _ _ _ _ _ _ _ _ _ _ _ _ _ _ _ _ _ _ _ _ _ _ _ _ _ _ _ _ _ _ _ _ _ _ _ _ _ _ _ _ _ _ _ _ _ _ _ _ _ _ _ _ _ _ _ _ _ _ _ _ _ _ _ _ _ _ _ _ _ _ _ _ _ _ _ _ _ _ _ _ _ _ _ _ _ _ _ _ _ _ _ _ _ _ _ _ _ _ _ _ _ _ _ _ _ _ _ _ _ _ _ _ _ _ _ _ _ _ _ _ _ _ _ _ _ _ _ _ _ _ _ _ _ _ _ _ _ _ _ _ _ _ _ _ _ _ ?rel)
                    case rel => exact ⟨y, _, by go_num, rfl, HHD.out, rfl⟩
            · rcases hcase with ⟨hm, rfl⟩ | ⟨hm, rfl⟩ | ⟨hm, rfl⟩ | ⟨hm, rfl⟩
              all_goals as_aux_lemma =>
                go_wp2
                go_ret3
                exact ⟨HS.out.below, .inl ⟨_, _, rfl⟩⟩
          · as_aux_lemma =>
            go_wp2
            go_ret3
            exact ⟨HS.out.below, .inl ⟨_, _, rfl⟩⟩
      case rest =>
        obtain ⟨arg, hn, rfl, rfl, hh, rfl⟩ := hcut
        have hb := head_bnd hh
        rw [List.length_drop, ← HN.out] at hb
        have HH := hide hh
        clear hh
        obtain ⟨h1, h2, h3, h4, h5⟩ := hb
        obtain ⟨q, eq⟩ : ∃ q, q = p + hn := ⟨_, rfl⟩
        rw [← eq]
        have hq : q ≤ n := by omega
        have hpq : p < q := by omega
        have HQ := hide eq
        have hol : out.length + 2 ≤ 30000000 := by have := HS.out.len; have := HS.out.p2; have := HN.out; omega
        have hfl : fs.length ≤ 1048576000 := by have := HS.out.len; have := HS.out.p2; have := HN.out; omega
        have hsz : B ≤ wc.heap.size := by have := HS.out.below.size; omega
        clear eq h3
        go_upto_block 4 with fail
        go_cut [9, 10, 11, 18, 12, 13, 14, 15] from 35 to 236 (fun o q s op _ _ _ _ wx => SRel B d bs pos w p o q s op wx)
        case first =>
          rename_i J1 K1 hJ1 hK1
          have hJ1' := fun (wx : World) u0 u1 u2 u3 u4 u5 u6 u7 u8 u9 u10 u11 u12 u13 u14 u15 u16 u17 u18 u19 u20 u21 u22 u23 u24 u25 u26 u27 u28 u29 u30 u31 u32 u33 u34 u35 u36 u37 u38 u39 u40 u41 u42 u43 u44 u45 u46 u47 u48 u49 u50 u51 u52 u53 u54 u55 u56 u57 u58 u59 u60 u61 u62 u63 u64 u65 u66 u67 u68 u69 u70 u71 u72 u73 u74 u75 u76 u77 u78 u79 u80 u81 u82 u83 u84 u85 u86 u87 u88 u89 u90 u91 u92 u93 u94 u95 u96 u97 u98 u99 u100 u101 u102 u103 u104 u105 u106 u107 u108 u109 u110 u111 u112 u113 u114 u115 u116 u117 u118 u119 u120 u121 u122 u123 u124 u125 u126 u127 u128 u129 u130 u131 u132 u133 u134 u135 u136 u137 u138 u139 u140 u141 u142 u143 u144 u145 u146 u147 u148 u149 u150 u151 u152 u153 u154 u155 u156 u157 u158 u159 u160 u161 u162 u163 u164 u165 u166 u167 u168 u169 u170 u171 u172 u173 u174 u175 u176 u177 u178 u179 u180 u181 u182 u183 u184 u185 u186 u187 u188 u189 u190 u191 u192 u193 u194 u195 u196 u197 u198 u199 u200 u201 u202 u203 u204 u205 u206 u207 u208 u209 u210 u211 u212 u213 u214 u215 u216 h => hJ1 _ wx ⟨u0, u1, u2, u3, u4, u5, u6, u7, u8, u9, u10, u11, u12, u13, u14, u15, u16, u17, u18, u19, u20, u21, u22, u23, u24, u25, u26, u27, u28, u29, u30, u31, u32, u33, u34, u35, u36, u37, u38, u39, u40, u41, u42, u43, u44, u45, u46, u47, u48, u49, u50, u51, u52, u53, u54, u55, u56, u57, u58, u59, u60, u61, u62, u63, u64, u65, u66, u67, u68, u69, u70, u71, u72, u73, u74, u75, u76, u77, u78, u79, u80, u81, u82, u83, u84, u85, u86, u87, u88, u89, u90, u91, u92, u93, u94, u95, u96, u97, u98, u99, u100, u101, u102, u103, u104, u105, u106, u107, u108, u109, u110, u111, u112, u113, u114, u115, u116, u117, u118, u119, u120, u121, u122, u123, u124, u125, u126, u127, u128, u129, u130, u131, u132, u133, u134, u135, u136, u137, u138, u139, u140, u141, u142, u143, u144, u145, u146, u147, u148, u149, u150, u151, u152, u153, u154, u155, u156, u157, u158, u159, u160, u161, u162, u163, u164, u165, u166, u167, u168, u169, u170, u171, u172, u173, u174, u175, u176, u177, u178, u179, u180, u181, u182, u183, u184, u185, u186, u187, u188, u189, u190, u191, u192, u193, u194, u195, u196, u197, u198, u199, u200, u201, u202, u203, u204, u205, u206, u207, u208, u209, u210, u211, u212, u213, u214, u215, u216, h, rfl⟩
          by_cases m0 : x / 32 = 0
          · as_aux_lemma =>
              have im : (x : Int) / 32 = 0 := by omega
              have HI : Hid (item 1 (d.drop p) = some (Lib.decDigits arg, hn)) := hide (by rw [item, HH.out]; simp [m0])
              go_wp2_with fail
              go_at_call 11
              refine (appDec_any B _ out arg wc h4 HS.out.own hsz (by omega)).mono ?_
              rintro e w2 ⟨v2, rfl, ho, hk⟩
              go_wp2
              refine Met.intro (hJ1' _ _ _ _ _ _ _ _ _ _ _ _ _ _ _ _ _ _ _ _ _ _ _ _ _ _ _ _ _ _ _ _ _ _ _ _ _ _ _ _ _ _ _ _ _ _ _ _ _ _ _ _ _ _ _ _ _ _ _ _ _ _ _ _ _ _ _ _ _ _ _ _ _ _ _ _ _ _ _ _ _ _ _ _ _ _ _ _ _ _ _ _ _ _ _ _ _ _ _ _ _ _ _ _ _ _ _ _ _ _ _ _ _ _ _ _ _ _ _ _ _ _ _ _ _ _ _ _ _ _ _ _ _ _ _ _ _ _ _ _ _ _ _ _ _ _ _ _ _ _ _ _ _ _ _ _ _ _ _ _ _ _ _ _ _ _ _ _ _ _ _ _ _ _ _ _ _ _ _ _ _ _ _ _ _ _ _ _ _ _ _ _ _ _ _ _ _ _ _ _ _ _ _ _ _ _ _ _ _ _ _ _ _ _ _ _ _ _ ?rel)
              case rel => exact HS.out.leaf_rel HI.out ho hk (by rw [HQ.out])
          by_cases m1 : x / 32 = 1
          · as_aux_lemma =>
              have im : (x : Int) / 32 = 1 := by omega
              by_cases ha : arg ≤ 9223372036854775807
              · have HI : Hid (item 1 (d.drop p) = some (45 :: Lib.decDigits (arg + 1), hn)) := hide (by rw [item, HH.out]; simp [m1, ha])
                go_wp2_with (at_builtin; refine wpList_app rfl (.tmp 92) (.tmp 93) rfl B _ out rfl (HS.out.own.alloc _) [45] ⟨_, 0, none⟩ 1 1 rfl rfl (lit_cells _ [45] 5) (by simp; omega) (by simp; omega) ?_; intro v2 w2 ho2 hk2)
                have HK2 : Hid (Kept B wc w2) := hide (((Kept.refl _ _).alloc hsz _).trans hk2)
                have HO2 := hide ho2
                clear ho2 hk2
                go_at_call 11
                refine (appDec_any B _ (out ++ [45]) (arg + 1) w2 (by omega) HO2.out (by have := HK2.out.size; omega) (by simp; omega)).mono ?_
                rintro e w3 ⟨v3, rfl, ho, hk⟩
                go_wp2
                refine Met.intro (hJ1' _ _ _ _ _ _ _ _ _ _ _ _ _ _ _ _ _ _ _ _ _ _ _ _ _ _ _ _ _ _ _ _ _ _ _ _ _ _ _ _ _ _ _ _ _ _ _ _ _ _ _ _ _ _ _ _ _ _ _ _ _ _ _ _ _ _ _ _ _ _ _ _ _ _ _ _ _ _ _ _ _ _ _ _ _ _ _ _ _ _ _ _ _ _ _ _ _ _ _ _ _ _ _ _ _ _ _ _ _ _ _ _ _ _ _ _ _ _ _ _ _ _ _ _ _ _ _ _ _ _ _ _ _ _ _ _ _ _ _ _ _ _ _ _ _ _ _ _ _ _ _ _ _ _ _ _ _ _ _ _ _ _ _ _ _ _ _ _ _ _ _ _ _ _ _ _ _ _ _ _ _ _ _ _ _ _ _ _ _ _ _ _ _ _ _ _ _ _ _ _ _ _ _ _ _ _ _ _ _ _ _ _ _ _ _ _ _ _ ?rel)
                case rel => exact HS.out.leaf_rel HI.out (by simpa using ho) (HK2.out.trans hk) (by rw [HQ.out])
              · go_wp2
                go_ret3
                exact ⟨HS.out.below, .inl ⟨_, _, rfl⟩⟩
          by_cases m3 : x / 32 = 3
          · as_aux_lemma =>
              have im : (x : Int) / 32 = 3 := by omega
              by_cases ha : q + arg ≤ n
              · have HI : Hid (item 1 (d.drop p) = some (34 :: (escs ((d.drop q).take arg) ++ [34]), hn + arg)) := hide (by
                  rw [item, HH.out]
                  simp only [m3, List.drop_drop, ← HQ.out]
                  rw [if_neg (by decide), if_neg (by decide), if_pos trivial, if_pos (by rw [List.length_drop, ← HN.out]; omega)])
                have HTX : Hid (((d.drop q).take arg).length = arg) := hide (by rw [List.length_take, List.length_drop, ← HN.out]; omega)
                have HTB := hide (bytes_sub (HBY.out.below HS.out.below hbd) q arg)
                obtain ⟨tx, et⟩ : ∃ tx, tx = (d.drop q).take arg := ⟨_, rfl⟩
                rw [← et] at HI HTX HTB
                clear et
                go_wp2_with (at_builtin; refine wpList_app rfl (.tmp 110) (.tmp 111) rfl B _ out rfl (HS.out.own.alloc _) [34] ⟨_, 0, none⟩ 1 1 rfl rfl (lit_cells _ [34] 5) (by simp; omega) (by simp; omega) ?_; intro v2 w2 ho2 hk2)
                have HK2 : Hid (Kept B wc w2) := hide (((Kept.refl _ _).alloc hsz _).trans hk2)
                have HO2 := hide ho2
                clear ho2 hk2
                go_loopg [9, 20] arg (fun gk o i wq => ∃ k : Nat, k ≤ arg ∧ i = .int .i64 k ∧ Hid (Own B wq o (out ++ 34 :: escs (tx.take k))) ∧ Hid (Kept B wc wq) ∧ gk = arg - k)
                case atStart => exact ⟨0, Nat.zero_le _, rfl, HO2, HK2, rfl⟩
                case round =>
                  clear HO2 HK2
                  obtain ⟨k, hk, rfl, HO3, HK3, rfl⟩ := hrel
                  have htl := HTX.out
                  have hel := escs_len (tx.take k)
                  rw [List.length_take] at hel
                  have hsz3 : B ≤ wr.heap.size := by have := HK3.out.size; omega
                  by_cases hlt : k < arg
                  · have hkl : k < tx.length := by omega
                    have ck := (HTB.out.kept HK3.out hbd) k hkl
                    have HSC : Hid (escs (tx.take (k + 1)) = escs (tx.take k) ++ esc tx[k]) := hide (by rw [take_succ' tx k hkl, escs_append, escs_one])
                    obtain ⟨cb, ec⟩ : ∃ cb, cb = tx[k] := ⟨_, rfl⟩
                    rw [← ec] at ck HSC
                    clear ec
                    rw [Nat.add_assoc off q k] at ck
                    have HCB := hide (escB_any B _ _ cb wr HO3.out hsz3 (by simp; omega))
                    have hcl := UInt8.toNat_lt cb
                    obtain ⟨cn, ecn⟩ : ∃ cn, cn = cb.toNat := ⟨_, rfl⟩
                    rw [← ecn] at ck HCB hcl
                    clear ecn
                    go_wp2_with fail
                    go_at_call 12
                    refine HCB.out.mono ?_
                    rintro e w4 ⟨v4, rfl, ho4, hk4⟩
                    have HO4 : Hid (Own B w4 v4 (out ++ 34 :: escs (tx.take (k + 1)))) := hide (by rw [HSC.out]; simpa using ho4)
                    have HK4 := hide (HK3.out.trans hk4)
                    clear ho4 hk4
                    go_wp2
                    go_roundg (arg - (k + 1))
                    case rel => exact ⟨k + 1, by omega, by go_num, HO4, HK4, rfl⟩
                    case measure => omega
                  · have HF : Hid (tx.take k = tx) := hide (List.take_of_length_le (by omega))
                    go_wp2_with (at_builtin; refine wpList_app rfl (.tmp 126) (.tmp 127) rfl B _ _ rfl (HO3.out.alloc _) [34] ⟨_, 0, none⟩ 1 1 rfl rfl (lit_cells _ [34] 5) (by simp; omega) (by simp; omega) ?_; intro v5 w5 ho5 hk5)
                    have HR := hide (HS.out.leaf_rel HI.out (by rw [HF.out] at ho5; simpa using ho5) (HK3.out.trans (((Kept.refl _ _).alloc hsz3 _).trans hk5)) (q := .int .i64 ((q : Int) + (arg : Int))) (by rw [← Nat.add_assoc, ← HQ.out]; go_num))
                    clear ho5 hk5
                    go_wp2
                    refine Met.intro (hJ1' _ _ _ _ _ _ _ _ _ _ _ _ _ _ _ _ _ _ _ _ _ _ _ _ _ _ _ _ _ _ _ _ _ _ _ _ _ _ _ _ _ _ _ _ _ _ _ _ _ _ _ _ _ _ _ _ _ _ _ _ _ _ _ _ _ _ _ _ _ _ _ _ _ _ _ _ _ _ _ _ _ _ _ _ _ _ _ _ _ _ _ _ _ _ _ _ _ _ _ _ _ _ _ _ _ _ _ _ _ _ _ _ _ _ _ _ _ _ _ _ _ _ _ _ _ _ _ _ _ _ _ _ _ _ _ _ _ _ _ _ _ _ _ _ _ _ _ _ _ _ _ _ _ _ _ _ _ _ _ _ _ _ _ _ _ _ _ _ _ _ _ _ _ _ _ _ _ _ _ _ _ _ _ _ _ _ _ _ _ _ _ _ _ _ _ _ _ _ _ _ _ _ _ _ _ _ _ _ _ _ _ _ _ _ _ _ _ _ ?rel)
                    case rel => exact HR.out
              · go_wp2
                go_ret3
                exact ⟨HS.out.below, .inl ⟨_, _, rfl⟩⟩
          by_cases m45 : x / 32 = 4 ∨ x / 32 = 5
          · rcases m45 with m4 | m4
            · have im : (x : Int) / 32 = 4 := by omega
              by_cases ha : arg = 0
              · as_aux_lemma =>
                have HI : Hid (item 1 (d.drop p) = some ([91, 93], hn)) := hide (by
                  rw [item, HH.out]
                  simp [m4, ha, elems])
                subst ha
                go_wp2_with (at_builtin; first
                  | (refine wpList_app rfl (.tmp 137) (.tmp 139) rfl B _ out rfl (HS.out.own.alloc _) [91] ⟨_, 0, none⟩ 1 1 rfl rfl (lit_cells _ [91] 5) (by simp; omega) (by simp; omega) ?_; intro v2 w2 ho2 hk2; have HK2 : Hid (Kept B wc w2) := hide (((Kept.refl _ _).alloc hsz _).trans hk2); have HO2 := hide ho2; have hsz2 : B ≤ w2.heap.size := by { have := HK2.out.size; omega }; clear ho2 hk2)
                  | (refine wpList_app rfl (.tmp 143) (.tmp 145) rfl B _ (out ++ [91]) rfl (HO2.out.alloc _) [93] ⟨_, 0, none⟩ 1 1 rfl rfl (lit_cells _ [93] 5) (by simp; omega) (by simp; omega) ?_; intro v3 w3 ho3 hk3; have HR := hide (HS.out.leaf_rel HI.out (by simpa using ho3) (HK2.out.trans (((Kept.refl _ _).alloc hsz2 _).trans hk3)) (q := .int .i64 (q : Int)) (by rw [HQ.out])); clear ho3 hk3))
                refine Met.intro (hJ1' _ _ _ _ _ _ _ _ _ _ _ _ _ _ _ _ _ _ _ _ _ _ _ _ _ _ _ _ _ _ _ _ _ _ _ _ _ _ _ _ _ _ _ _ _ _ _ _ _ _ _ _ _ _ _ _ _ _ _ _ _ _ _ _ _ _ _ _ _ _ _ _ _ _ _ _ _ _ _ _ _ _ _ _ _ _ _ _ _ _ _ _ _ _ _ _ _ _ _ _ _ _ _ _ _ _ _ _ _ _ _ _ _ _ _ _ _ _ _ _ _ _ _ _ _ _ _ _ _ _ _ _ _ _ _ _ _ _ _ _ _ _ _ _ _ _ _ _ _ _ _ _ _ _ _ _ _ _ _ _ _ _ _ _ _ _ _ _ _ _ _ _ _ _ _ _ _ _ _ _ _ _ _ _ _ _ _ _ _ _ _ _ _ _ _ _ _ _ _ _ _ _ _ _ _ _ _ _ _ _ _ _ _ _ _ _ _ _ ?rel)
                case rel => exact HR.out
              · skip
                go_wp2_with (at_builtin; first
                  | (refine wpList_app rfl (.tmp 137) (.tmp 139) rfl B _ out rfl (HS.out.own.alloc _) [91] ⟨_, 0, none⟩ 1 1 rfl rfl (lit_cells _ [91] 5) (by simp; omega) (by simp; omega) ?_; intro v2 w2 ho2 hk2; have HK2 : Hid (Kept B wc w2) := hide (((Kept.refl _ _).alloc hsz _).trans hk2); have HO2 := hide ho2; have hsz2 : B ≤ w2.heap.size := by { have := HK2.out.size; omega }; clear ho2 hk2)
                  | (refine wpList_push rfl (.tmp 147) (.tmp 153) rfl B _ fs rfl ((HS.out.stk.kept HK2.out).alloc _) ⟨arg, false, false, 93⟩ ⟨_, 0, none⟩ 1 rfl (fr_cells_at _ arg false false 93) hfl (by simp; omega) ?_; intro v3 w3 hs3 hg3; have HR := hide (HS.out.opened false (by rw [HH.out, m4]; rfl) ha HO2.out HK2.out hs3 hg3 hsz2 (q := .int .i64 (q : Int)) (by rw [HQ.out])); clear hs3 hg3))
                as_aux_lemma =>
                  refine Met.intro (hJ1' _ _ _ _ _ _ _ _ _ _ _ _ _ _ _ _ _ _ _ _ _ _ _ _ _ _ _ _ _ _ _ _ _ _ _ _ _ _ _ _ _ _ _ _ _ _ _ _ _ _ _ _ _ _ _ _ _ _ _ _ _ _ _ _ _ _ _ _ _ _ _ _ _ _ _ _ _ _ _ _ _ _ _ _ _ _ _ _ _ _ _ _ _ _ _ _ _ _ _ _ _ _ _ _ _ _ _ _ _ _ _ _ _ _ _ _ _ _ _ _ _ _ _ _ _ _ _ _ _ _ _ _ _ _ _ _ _ _ _ _ _ _ _ _ _ _ _ _ _ _ _ _ _ _ _ _ _ _ _ _ _ _ _ _ _ _ _ _ _ _ _ _ _ _ _ _ _ _ _ _ _ _ _ _ _ _ _ _ _ _ _ _ _ _ _ _ _ _ _ _ _ _ _ _ _ _ _ _ _ _ _ _ _ _ _ _ _ _ ?rel)
                  case rel => exact HR.out
            · have im : (x : Int) / 32 = 5 := by omega
              by_cases ha : arg = 0
              · as_aux_lemma =>
                have HI : Hid (item 1 (d.drop p) = some ([123, 125], hn)) := hide (by
                  rw [item, HH.out]
                  simp [m4, ha, elems])
                subst ha
                go_wp2_with (at_builtin; first
                  | (refine wpList_app rfl (.tmp 137) (.tmp 139) rfl B _ out rfl (HS.out.own.alloc _) [123] ⟨_, 0, none⟩ 1 1 rfl rfl (lit_cells _ [123] 5) (by simp; omega) (by simp; omega) ?_; intro v2 w2 ho2 hk2; have HK2 : Hid (Kept B wc w2) := hide (((Kept.refl _ _).alloc hsz _).trans hk2); have HO2 := hide ho2; have hsz2 : B ≤ w2.heap.size := by { have := HK2.out.size; omega }; clear ho2 hk2)
                  | (refine wpList_app rfl (.tmp 143) (.tmp 145) rfl B _ (out ++ [123]) rfl (HO2.out.alloc _) [125] ⟨_, 0, none⟩ 1 1 rfl rfl (lit_cells _ [125] 5) (by simp; omega) (by simp; omega) ?_; intro v3 w3 ho3 hk3; have HR := hide (HS.out.leaf_rel HI.out (by simpa using ho3) (HK2.out.trans (((Kept.refl _ _).alloc hsz2 _).trans hk3)) (q := .int .i64 (q : Int)) (by rw [HQ.out])); clear ho3 hk3))
                refine Met.intro (hJ1' _ _ _ _ _ _ _ _ _ _ _ _ _ _ _ _ _ _ _ _ _ _ _ _ _ _ _ _ _ _ _ _ _ _ _ _ _ _ _ _ _ _ _ _ _ _ _ _ _ _ _ _ _ _ _ _ _ _ _ _ _ _ _ _ _ _ _ _ _ _ _ _ _ _ _ _ _ _ _ _ _ _ _ _ _ _ _ _ _ _ _ _ _ _ _ _ _ _ _ _ _ _ _ _ _ _ _ _ _ _ _ _ _ _ _ _ _ _ _ _ _ _ _ _ _ _ _ _ _ _ _ _ _ _ _ _ _ _ _ _ _ _ _ _ _ _ _ _ _ _ _ _ _ _ _ _ _ _ _ _ _ _ _ _ _ _ _ _ _ _ _ _ _ _ _ _ _ _ _ _ _ _ _ _ _ _ _ _ _ _ _ _ _ _ _ _ _ _ _ _ _ _ _ _ _ _ _ _ _ _ _ _ _ _ _ _ _ _ ?rel)
                case rel => exact HR.out
              · skip
                go_wp2_with (at_builtin; first
                  | (refine wpList_app rfl (.tmp 137) (.tmp 139) rfl B _ out rfl (HS.out.own.alloc _) [123] ⟨_, 0, none⟩ 1 1 rfl rfl (lit_cells _ [123] 5) (by simp; omega) (by simp; omega) ?_; intro v2 w2 ho2 hk2; have HK2 : Hid (Kept B wc w2) := hide (((Kept.refl _ _).alloc hsz _).trans hk2); have HO2 := hide ho2; have hsz2 : B ≤ w2.heap.size := by { have := HK2.out.size; omega }; clear ho2 hk2)
                  | (refine wpList_push rfl (.tmp 147) (.tmp 153) rfl B _ fs rfl ((HS.out.stk.kept HK2.out).alloc _) ⟨arg, true, false, 125⟩ ⟨_, 0, none⟩ 1 rfl (fr_cells_at _ arg true false 125) hfl (by simp; omega) ?_; intro v3 w3 hs3 hg3; have HR := hide (HS.out.opened true (by rw [HH.out, m4]; rfl) ha HO2.out HK2.out hs3 hg3 hsz2 (q := .int .i64 (q : Int)) (by rw [HQ.out])); clear hs3 hg3))
                as_aux_lemma =>
                  refine Met.intro (hJ1' _ _ _ _ _ _ _ _ _ _ _ _ _ _ _ _ _ _ _ _ _ _ _ _ _ _ _ _ _ _ _ _ _ _ _ _ _ _ _ _ _ _ _ _ _ _ _ _ _ _ _ _ _ _ _ _ _ _ _ _ _ _ _ _ _ _ _ _ _ _ _ _ _ _ _ _ _ _ _ _ _ _ _ _ _ _ _ _ _ _ _ _ _ _ _ _ _ _ _ _ _ _ _ _ _ _ _ _ _ _ _ _ _ _ _ _ _ _ _ _ _ _ _ _ _ _ _ _ _ _ _ _ _ _ _ _ _ _ _ _ _ _ _ _ _ _ _ _ _ _ _ _ _ _ _ _ _ _ _ _ _ _ _ _ _ _ _ _ _ _ _ _ _ _ _ _ _ _ _ _ _ _ _ _ _ _ _ _ _ _ _ _ _ _ _ _ _ _ _ _ _ _ _ _ _ _ _ _ _ _ _ _ _ _ _ _ _ _ ?rel)
                  case rel => exact HR.out
          by_cases m7 : x / 32 = 7
          · skip
            have im : (x : Int) / 32 = 7 := by omega
            by_cases x4 : x = 244
            · have HI : Hid (item 1 (d.drop p) = some ([102, 97, 108, 115, 101], hn)) := hide (by rw [item, HH.out, HD.out]; simp only [List.headD_cons, ← HX.out, x4]; simp [lit7])
              subst x4
              go_wp2_with (at_builtin; refine wpList_app rfl (.tmp 160) (.tmp 161) rfl B _ out rfl (HS.out.own.alloc _) [102, 97, 108, 115, 101] ⟨_, 0, none⟩ 5 5 rfl rfl (lit_cells _ [102, 97, 108, 115, 101] 5) (by simp; omega) (by simp; omega) ?_; intro v2 w2 ho2 hk2)
              have HR := hide (HS.out.leaf_rel HI.out ho2 (((Kept.refl _ _).alloc hsz _).trans hk2) (q := .int .i64 (q : Int)) (by rw [HQ.out]))
              clear ho2 hk2
              as_aux_lemma =>
                go_wp2
                refine Met.intro (hJ1' _ _ _ _ _ _ _ _ _ _ _ _ _ _ _ _ _ _ _ _ _ _ _ _ _ _ _ _ _ _ _ _ _ _ _ _ _ _ _ _ _ _ _ _ _ _ _ _ _ _ _ _ _ _ _ _ _ _ _ _ _ _ _ _ _ _ _ _ _ _ _ _ _ _ _ _ _ _ _ _ _ _ _ _ _ _ _ _ _ _ _ _ _ _ _ _ _ _ _ _ _ _ _ _ _ _ _ _ _ _ _ _ _ _ _ _ _ _ _ _ _ _ _ _ _ _ _ _ _ _ _ _ _ _ _ _ _ _ _ _ _ _ _ _ _ _ _ _ _ _ _ _ _ _ _ _ _ _ _ _ _ _ _ _ _ _ _ _ _ _ _ _ _ _ _ _ _ _ _ _ _ _ _ _ _ _ _ _ _ _ _ _ _ _ _ _ _ _ _ _ _ _ _ _ _ _ _ _ _ _ _ _ _ _ _ _ _ _ ?rel)
                case rel => exact HR.out
            by_cases x5 : x = 245
            · have x4 := x5
              have HI : Hid (item 1 (d.drop p) = some ([116, 114, 117, 101], hn)) := hide (by rw [item, HH.out, HD.out]; simp only [List.headD_cons, ← HX.out, x4]; simp [lit7])
              subst x4
              go_wp2_with (at_builtin; refine wpList_app rfl (.tmp 165) (.tmp 166) rfl B _ out rfl (HS.out.own.alloc _) [116, 114, 117, 101] ⟨_, 0, none⟩ 4 4 rfl rfl (lit_cells _ [116, 114, 117, 101] 5) (by simp; omega) (by simp; omega) ?_; intro v2 w2 ho2 hk2)
              have HR := hide (HS.out.leaf_rel HI.out ho2 (((Kept.refl _ _).alloc hsz _).trans hk2) (q := .int .i64 (q : Int)) (by rw [HQ.out]))
              clear ho2 hk2
              as_aux_lemma =>
                go_wp2
                refine Met.intro (hJ1' _ _ _ _ _ _ _ _ _ _ _ _ _ _ _ _ _ _ _ _ _ _ _ _ _ _ _ _ _ _ _ _ _ _ _ _ _ _ _ _ _ _ _ _ _ _ _ _ _ _ _ _ _ _ _ _ _ _ _ _ _ _ _ _ _ _ _ _ _ _ _ _ _ _ _ _ _ _ _ _ _ _ _ _ _ _ _ _ _ _ _ _ _ _ _ _ _ _ _ _ _ _ _ _ _ _ _ _ _ _ _ _ _ _ _ _ _ _ _ _ _ _ _ _ _ _ _ _ _ _ _ _ _ _ _ _ _ _ _ _ _ _ _ _ _ _ _ _ _ _ _ _ _ _ _ _ _ _ _ _ _ _ _ _ _ _ _ _ _ _ _ _ _ _ _ _ _ _ _ _ _ _ _ _ _ _ _ _ _ _ _ _ _ _ _ _ _ _ _ _ _ _ _ _ _ _ _ _ _ _ _ _ _ _ _ _ _ _ ?rel)
                case rel => exact HR.out
            by_cases x6 : x = 246
            · have x4 := x6
              have HI : Hid (item 1 (d.drop p) = some ([110, 117, 108, 108], hn)) := hide (by rw [item, HH.out, HD.out]; simp only [List.headD_cons, ← HX.out, x4]; simp [lit7])
              subst x4
              go_wp2_with (at_builtin; refine wpList_app rfl (.tmp 170) (.tmp 171) rfl B _ out rfl (HS.out.own.alloc _) [110, 117, 108, 108] ⟨_, 0, none⟩ 4 4 rfl rfl (lit_cells _ [110, 117, 108, 108] 5) (by simp; omega) (by simp; omega) ?_; intro v2 w2 ho2 hk2)
              have HR := hide (HS.out.leaf_rel HI.out ho2 (((Kept.refl _ _).alloc hsz _).trans hk2) (q := .int .i64 (q : Int)) (by rw [HQ.out]))
              clear ho2 hk2
              as_aux_lemma =>
                go_wp2
                refine Met.intro (hJ1' _ _ _ _ _ _ _ _ _ _ _ _ _ _ _ _ _ _ _ _ _ _ _ _ _ _ _ _ _ _ _ _ _ _ _ _ _ _ _ _ _ _ _ _ _ _ _ _ _ _ _ _ _ _ _ _ _ _ _ _ _ _ _ _ _ _ _ _ _ _ _ _ _ _ _ _ _ _ _ _ _ _ _ _ _ _ _ _ _ _ _ _ _ _ _ _ _ _ _ _ _ _ _ _ _ _ _ _ _ _ _ _ _ _ _ _ _ _ _ _ _ _ _ _ _ _ _ _ _ _ _ _ _ _ _ _ _ _ _ _ _ _ _ _ _ _ _ _ _ _ _ _ _ _ _ _ _ _ _ _ _ _ _ _ _ _ _ _ _ _ _ _ _ _ _ _ _ _ _ _ _ _ _ _ _ _ _ _ _ _ _ _ _ _ _ _ _ _ _ _ _ _ _ _ _ _ _ _ _ _ _ _ _ _ _ _ _ _ ?rel)
                case rel => exact HR.out
            go_wp2
            go_ret3
            exact ⟨HS.out.below, .inl ⟨_, _, rfl⟩⟩
          have im : (x : Int) / 32 = 2 ∨ (x : Int) / 32 = 6 := by omega
          rcases im with im | im
          all_goals
            go_wp2
            go_ret3
            exact ⟨HS.out.below, .inl ⟨_, _, rfl⟩⟩
        case rest =>
          obtain ⟨p', out', fs', rfl, hpp, (⟨rfl, hS'⟩ | ⟨rfl, hS'⟩)⟩ := hcut
          · as_aux_lemma =>
            have HS' := hide hS'
            clear hS'
            go_wp2
            refine Handed.intro (d.length - p') ?measure (hJ0' _ _ _ _ _ _ _ _ _ _ _ _ _ _ _ _ _ _ _ _ _ _ _ _ _ _ _ _ _ _ _ _ _ _ _ _ _ _ _ _ _ _ _ _ _ _ _ _ _ _ _ _ _ _ _ _ _ _ _ _ _ _ _ _ _ _ _ _ _ _ _ _ _ _ _ _ _ _ _ _ _ _ _ _ _ _ _ _ _ _ _ _ _ _ _ _ _ _ _ _ _ _ _ _ _ _ _ _ _ _ _ _ _ _ _ _ _ _ _ _ _ _ _ _ _ _ _ _ _ _ _ _ _ _ _ _ _ _ _ _ _ _ _ _ _ _ _ _ _ _ _ _ _ _ _ _ _ _ _ _ _ _ _ _ _ _ _ _ _ _ _ _ _ _ _ _ _ _ _ _ _ _ _ _ _ _ _ _ _ _ _ _ _ _ _ _ _ _ _ _ _ _ _ _ _ _ _ _ _ _ _ _ _ _ _ _ _ _ _ _ _ _ ?rel)
            case rel => exact ⟨p', out', fs', rfl, HS'.out, rfl⟩
            case measure => have := HS'.out.p2; omega
          · have HS' := hide hS'
            clear hS'
            go_wp2_with fail
            go_loopg [9, 11] fs'.length (fun k o s wr => LRel B d bs pos w p' k o s wr)
            case atStart => exact ⟨out', fs', HS'.out, rfl⟩
            case round =>
              clear HS'
              obtain ⟨out2, fs2, hD, rfl⟩ := hrel
              have HD2 := hide hD
              obtain ⟨o2a, o2n, o2c, rfl, HO2N⟩ := hD.own.shape
              clear hD
              cases fs2 with
              | nil => as_aux_lemma =>
                obtain ⟨s2a, s2n, s2c, rfl, HS2N⟩ := HD2.out.stk.shape
                have hs2 : s2n = 0 := HS2N.out
                subst hs2
                go_wp2
                go_ret3
                obtain ⟨f, t0, n0, e1, e2, e3⟩ := HD2.out.good.done
                exact ⟨HD2.out.below, .inr ⟨_, pos, f, t0, n0, rfl, by rw [e3]; rfl, e1, by rw [← e2]; exact HD2.out.own⟩⟩
              | cons fr fs3 =>
                obtain ⟨g, cap, rfl, hcap, k0, k1, k2, k3, kf⟩ := HD2.out.stk.top
                obtain ⟨left, isMap, want, fin⟩ := fr
                have hlf := HD2.out.fr _ (List.mem_cons_self ..)
                have hol2 : out2.length + 2 ≤ 30000000 := by have := HD2.out.len; have := HD2.out.p2; have := HN.out; omega
                have hfl2 : fs3.length ≤ 1048576000 := by have := HD2.out.len; have := HD2.out.p2; have := HN.out; rw [List.length_cons] at *; omega
                have hsz2 : B ≤ wr.heap.size := by have := HD2.out.below.size; omega
                have HK0 := hide kf
                clear kf
                simp only at k0 k1 k2 k3 hlf
                obtain ⟨m, em⟩ : ∃ m, m = fs3.length := ⟨_, rfl⟩
                rw [← em] at hcap k0 k1 k2 k3 hfl2 ⊢
                have HM := hide em
                clear em
                by_cases hcol : isMap = true ∧ want = false
                · as_aux_lemma =>
                  obtain ⟨rfl, rfl⟩ := hcol
                  go_wp2_with (at_builtin; refine wpList_app rfl (.tmp 193) (.tmp 194) rfl B _ out2 rfl (HD2.out.own.alloc _) [58] ⟨_, 0, none⟩ 1 1 rfl rfl (lit_cells _ [58] 5) (by simp; omega) (by simp; omega) ?_; intro v4 w4 ho4 hk4; have HK4 : Hid (Kept B wr w4) := hide (((Kept.refl _ _).alloc hsz2 _).trans hk4); have HO4 := hide ho4; obtain ⟨_, _, j2, _, jf⟩ := (HD2.out.stk.kept HK4.out).topAt; rw [← HM.out] at j2; have jf2 := jf (m * 4 + 2); clear ho4 hk4 jf)
                  refine Handed.intro (d.length - p') ?measure (hJ0' _ _ _ _ _ _ _ _ _ _ _ _ _ _ _ _ _ _ _ _ _ _ _ _ _ _ _ _ _ _ _ _ _ _ _ _ _ _ _ _ _ _ _ _ _ _ _ _ _ _ _ _ _ _ _ _ _ _ _ _ _ _ _ _ _ _ _ _ _ _ _ _ _ _ _ _ _ _ _ _ _ _ _ _ _ _ _ _ _ _ _ _ _ _ _ _ _ _ _ _ _ _ _ _ _ _ _ _ _ _ _ _ _ _ _ _ _ _ _ _ _ _ _ _ _ _ _ _ _ _ _ _ _ _ _ _ _ _ _ _ _ _ _ _ _ _ _ _ _ _ _ _ _ _ _ _ _ _ _ _ _ _ _ _ _ _ _ _ _ _ _ _ _ _ _ _ _ _ _ _ _ _ _ _ _ _ _ _ _ _ _ _ _ _ _ _ _ _ _ _ _ _ _ _ _ _ _ _ _ _ _ _ _ _ _ _ _ _ _ _ _ _ ?rel)
                  case rel =>
                    have hm := HM.out
                    subst hm
                    have hst := (HD2.out.stk.kept HK4.out).set (fr' := ⟨left, true, true, fin⟩) rfl 2 (.bool true) rfl
                    exact ⟨p', _, _, rfl, HD2.out.colon rfl rfl HO4.out HK4.out hst.1 hst.2 (by have := HK4.out.size; omega), rfl⟩
                  case measure => have := HD2.out.p2; omega
                · have hcol2 : isMap = false ∨ (isMap = true ∧ want = true) := by cases isMap <;> cases want <;> simp at hcol ⊢
                  clear hcol
                  rcases hcol2 with rfl | ⟨rfl, rfl⟩
                  · by_cases h2l : 2 ≤ left
                    · as_aux_lemma =>
                      obtain ⟨⟨a1, a2⟩, ⟨a3, a4⟩, ao, as_, ab⟩ := HD2.out.dec2 m HM.out (by rw [HM.out]) hsz2
                      unfold W1 at a1 a2
                      unfold W2 W1 at a3 a4
                      have HAO := hide ao
                      have HAS := hide as_
                      have HAB := hide ab
                      have hszA : B ≤ (W2 wr g m left).heap.size := by have := ab.size; omega
                      clear ao as_ ab
                      have kf2 := HK0.out (m * 4 + 2)
                      go_wp2_with (at_builtin; refine wpList_app rfl (.tmp 218) (.tmp 219) rfl B _ out2 rfl (HAO.out.alloc _) [44] ⟨_, 0, none⟩ 1 1 rfl rfl (lit_cells2 wr g m left [44] 5) (by simp; omega) (by simp; omega) ?_; intro v4 w4 ho4 hk4; have HR := hide (HD2.out.comma (by simp) h2l HAB.out HAS.out ho4 (((Kept.refl _ _).alloc hszA _).trans hk4)); clear ho4 hk4)
                      refine Handed.intro (d.length - p') ?measure (hJ0' _ _ _ _ _ _ _ _ _ _ _ _ _ _ _ _ _ _ _ _ _ _ _ _ _ _ _ _ _ _ _ _ _ _ _ _ _ _ _ _ _ _ _ _ _ _ _ _ _ _ _ _ _ _ _ _ _ _ _ _ _ _ _ _ _ _ _ _ _ _ _ _ _ _ _ _ _ _ _ _ _ _ _ _ _ _ _ _ _ _ _ _ _ _ _ _ _ _ _ _ _ _ _ _ _ _ _ _ _ _ _ _ _ _ _ _ _ _ _ _ _ _ _ _ _ _ _ _ _ _ _ _ _ _ _ _ _ _ _ _ _ _ _ _ _ _ _ _ _ _ _ _ _ _ _ _ _ _ _ _ _ _ _ _ _ _ _ _ _ _ _ _ _ _ _ _ _ _ _ _ _ _ _ _ _ _ _ _ _ _ _ _ _ _ _ _ _ _ _ _ _ _ _ _ _ _ _ _ _ _ _ _ _ _ _ _ _ _ _ _ _ _ ?rel)
                      case rel => exact ⟨p', _, _, rfl, by rw [HM.out]; exact HR.out, rfl⟩
                      case measure => have := HD2.out.p2; omega
                    · as_aux_lemma =>
                      obtain ⟨⟨a1, a2⟩, ⟨a3, a4⟩, ao, as_, ab⟩ := HD2.out.dec2 m HM.out (by rw [HM.out]) hsz2
                      unfold W1 at a1 a2
                      unfold W2 W1 at a3 a4
                      have HAO := hide ao
                      have HAS := hide as_.pop
                      have HAB := hide ab
                      have hszA : B ≤ (W2 wr g m left).heap.size := by have := ab.size; omega
                      clear ao as_ ab
                      have kf2 := HK0.out (m * 4 + 2)
                      go_wp2_with (at_builtin; refine wpList_app rfl (.tmp 221) (.tmp 227) rfl B _ out2 rfl (HAO.out.alloc _) [fin] ⟨_, 0, none⟩ 1 1 rfl rfl (lit_cells2 wr g m left [fin] 5) (by simp; omega) (by simp; omega) ?_; intro v4 w4 ho4 hk4; have HR := hide (HD2.out.close (by simp) (by show left = 1; omega) HAB.out HAS.out ho4 (((Kept.refl _ _).alloc hszA _).trans hk4)); clear ho4 hk4)
                      go_roundg fs3.length
                      case rel => exact ⟨_, _, by rw [HM.out]; exact HR.out, rfl⟩
                      case measure => simp
                  · by_cases h2l : 2 ≤ left
                    · as_aux_lemma =>
                      obtain ⟨⟨a1, a2⟩, ⟨a3, a4⟩, ao, as_, ab⟩ := HD2.out.dec2 m HM.out (by rw [HM.out]) hsz2
                      unfold W1 at a1 a2
                      unfold W2 W1 at a3 a4
                      have HAO := hide ao
                      have HAS := hide as_
                      have HAB := hide ab
                      have hszA : B ≤ (W2 wr g m left).heap.size := by have := ab.size; omega
                      clear ao as_ ab
                      have kf2 := HK0.out (m * 4 + 2)
                      go_wp2_with (at_builtin; refine wpList_app rfl (.tmp 218) (.tmp 219) rfl B _ out2 rfl (HAO.out.alloc _) [44] ⟨_, 0, none⟩ 1 1 rfl rfl (lit_cells2 wr g m left [44] 5) (by simp; omega) (by simp; omega) ?_; intro v4 w4 ho4 hk4; have HR := hide (HD2.out.comma (by simp) h2l HAB.out HAS.out ho4 (((Kept.refl _ _).alloc hszA _).trans hk4)); clear ho4 hk4)
                      refine Handed.intro (d.length - p') ?measure (hJ0' _ _ _ _ _ _ _ _ _ _ _ _ _ _ _ _ _ _ _ _ _ _ _ _ _ _ _ _ _ _ _ _ _ _ _ _ _ _ _ _ _ _ _ _ _ _ _ _ _ _ _ _ _ _ _ _ _ _ _ _ _ _ _ _ _ _ _ _ _ _ _ _ _ _ _ _ _ _ _ _ _ _ _ _ _ _ _ _ _ _ _ _ _ _ _ _ _ _ _ _ _ _ _ _ _ _ _ _ _ _ _ _ _ _ _ _ _ _ _ _ _ _ _ _ _ _ _ _ _ _ _ _ _ _ _ _ _ _ _ _ _ _ _ _ _ _ _ _ _ _ _ _ _ _ _ _ _ _ _ _ _ _ _ _ _ _ _ _ _ _ _ _ _ _ _ _ _ _ _ _ _ _ _ _ _ _ _ _ _ _ _ _ _ _ _ _ _ _ _ _ _ _ _ _ _ _ _ _ _ _ _ _ _ _ _ _ _ _ _ _ _ _ ?rel)
                      case rel => exact ⟨p', _, _, rfl, by rw [HM.out]; exact HR.out, rfl⟩
                      case measure => have := HD2.out.p2; omega
                    · as_aux_lemma =>
                      obtain ⟨⟨a1, a2⟩, ⟨a3, a4⟩, ao, as_, ab⟩ := HD2.out.dec2 m HM.out (by rw [HM.out]) hsz2
                      unfold W1 at a1 a2
                      unfold W2 W1 at a3 a4
                      have HAO := hide ao
                      have HAS := hide as_.pop
                      have HAB := hide ab
                      have hszA : B ≤ (W2 wr g m left).heap.size := by have := ab.size; omega
                      clear ao as_ ab
                      have kf2 := HK0.out (m * 4 + 2)
                      go_wp2_with (at_builtin; refine wpList_app rfl (.tmp 221) (.tmp 227) rfl B _ out2 rfl (HAO.out.alloc _) [fin] ⟨_, 0, none⟩ 1 1 rfl rfl (lit_cells2 wr g m left [fin] 5) (by simp; omega) (by simp; omega) ?_; intro v4 w4 ho4 hk4; have HR := hide (HD2.out.close (by simp) (by show left = 1; omega) HAB.out HAS.out ho4 (((Kept.refl _ _).alloc hszA _).trans hk4)); clear ho4 hk4)
                      go_roundg fs3.length
                      case rel => exact ⟨_, _, by rw [HM.out]; exact HR.out, rfl⟩
                      case measure => simp
    · go_wp2
      go_ret3
      exact ⟨HS.out.below, .inl ⟨_, _, rfl⟩⟩
end Go.Proofs.Qxb6604022aDoor
