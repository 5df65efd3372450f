import Derived.Test.Qxb6619182aModsLast
namespace Go.Proofs.Qxb6619182aMods
open Go.RowKit
set_option linter.unusedVariables false

set_option maxRecDepth 100000 in
set_option maxHeartbeats 4000000 in
theorem tailE {a0 a1 a2 : Option Addr} {l0 l1 l2 p0 p1 p2 n hb bb lb cb : Nat} {sv : Value} {xs ss : List Int} {fs : List Nat} {ak : Option Addr} {m pk : Nat} {u3 u4 u5 u6 u9 u10 u11 u12 u13 u14 u15 u16 u17 u18 u19 u20 u22 u23 u24 u25 u26 u27 u28 u29 u30 u31 u32 u33 u34 u35 u36 u37 u38 u39 u40 u41 u42 u43 u44 u45 u46 u47 u48 u49 u50 u51 u52 u53 u54 u55 u56 u57 u58 u59 u60 u61 u62 u63 u64 u65 u66 u67 u68 u69 u70 u71 u72 u73 u74 u75 u76 u77 u78 u79 u80 u81 u82 u83 u84 u85 u86 u87 u88 u89 u90 u91 u92 u93 u94 u95 u96 u97 u98 u99 u100 u101 u102 u103 u104 u105 u106 u107 u108 u109 u110 u111 u112 u113 u114 u115 u116 u117 u118 u119 u120 u121 u122 u123 u124 u125 u126 u127 u128 u129 u130 u131 u132 u133 u134 u135 u136 u137 u138 u139 u140 u141 u142 u143 u144 u145 u146 u147 u148 u149 u150 u151 u152 u153 u154 u155 u156 u157 u158 u159 u160 u161 u162 u163 u164 u165 u166 u167 u168 u169 u170 u171 u172 u173 u174 u175 u176 u177 u178 u179 u180 u181 u182 u183 u184 u185 u186 u187 u188 u189 u190 u191 u192 u193 u194 u195 u196 u197 u198 u199 u200 u201 u202 u203 u204 u205 u206 u207 u208 u209 u210 u211 u212 u213 u214 u215 u216 u217 u218 u219 u220 u221 u222 u223 u224 u225 u226 u227 u228 u229 u230 u231 u232 u233 u234 u235 u236 u237 u238 u239 u240 u241 u242 u243 u244 u245 u246 u247 u248 u249 u250 u251 u252 u253 u254 u255 u256 u257 u258 u259 u260 u261 u262 u263 u264 u265 u266 u267 u268 u269 u270 u271 u272 u273 u274 u275 u276 u277 u278 u279 u280 u281 : Value} {w0 w : World} (E : Env w0 a0 a1 a2 l0 l1 l2 n xs ss fs)
    (hbel : Kept (Below w0.heap.size w0 w)) (hinv : Kept (CInv w hb bb lb cb sv (prTo xs ss fs n) (KS xs ss n))) (hm : Kept (m = (KS xs ss n).length)) (hrow : Kept (RowI w ak m (KS xs ss n))) :
    Code.wp Trym.prog (spine 19 (Trym.f3.body.getD .skip)) (bodyPost Trym.prog Trym.f3 fun e w' => e = .returned (.bool true) ∧ Below w0.heap.size w0 w') ⟨#[.slice a0 l0 p0, .slice a1 l1 p1, .slice a2 l2 p2, u3, u4, u5, u6, .int .i64 n, .pointer (some ⟨cb, 0, none⟩), u9, u10, u11, u12, u13, u14, u15, u16, u17, u18, u19, u20, .slice ak m pk, u22, u23, u24, u25, u26, u27, u28, u29, u30, u31, u32, u33, u34, u35, u36, u37, u38, u39, u40, u41, u42, u43, u44, u45, u46, u47, u48, u49, u50, u51, u52, u53, u54, u55, u56, u57, u58, u59, u60, u61, u62, u63, u64, u65, u66, u67, u68, u69, u70, u71, u72, u73, u74, u75, u76, u77, u78, u79, u80, u81, u82, u83, u84, u85, u86, u87, u88, u89, u90, u91, u92, u93, u94, u95, u96, u97, u98, u99, u100, u101, u102, u103, u104, u105, u106, u107, u108, u109, u110, u111, u112, u113, u114, u115, u116, u117, u118, u119, u120, u121, u122, u123, u124, u125, u126, u127, u128, u129, u130, u131, u132, u133, u134, u135, u136, u137, u138, u139, u140, u141, u142, u143, u144, u145, u146, u147, u148, u149, u150, u151, u152, u153, u154, u155, u156, u157, u158, u159, u160, u161, u162, u163, u164, u165, u166, u167, u168, u169, u170, u171, u172, u173, u174, u175, u176, u177, u178, u179, u180, u181, u182, u183, u184, u185, u186, u187, u188, u189, u190, u191, u192, u193, u194, u195, u196, u197, u198, u199, u200, u201, u202, u203, u204, u205, u206, u207, u208, u209, u210, u211, u212, u213, u214, u215, u216, u217, u218, u219, u220, u221, u222, u223, u224, u225, u226, u227, u228, u229, u230, u231, u232, u233, u234, u235, u236, u237, u238, u239, u240, u241, u242, u243, u244, u245, u246, u247, u248, u249, u250, u251, u252, u253, u254, u255, u256, u257, u258, u259, u260, u261, u262, u263, u264, u265, u266, u267, u268, u269, u270, u271, u272, u273, u274, u275, u276, u277, u278, u279, u280, u281], []⟩ w := by
  have hn : n ≤ 4096 := by have := E.n0; have := E.m0; omega
  have hm1 : m ≤ 2 * n := by rw [hm.out]; exact KS_length xs ss n
  conv => arg 2; whnf
  go_wp2
  rename_i K hK
  have HK := Kept.mk hK
  clear hK
  go_loopw [23, 24] (fun d i wr => ∃ k c : Nat, k ≤ m ∧ c ≤ k ∧ Kept (c = dist ((KS xs ss n).take k)) ∧ d = .int .i64 c ∧ i = .int .i64 k ∧ Kept (Below w.heap.size w wr)) (fun _ i _ => m - (intOf i).toNat)
  case atStart => exact ⟨0, 0, Nat.zero_le _, Nat.le_refl _, ⟨by simp [dist, dr]⟩, rfl, rfl, ⟨Below.refl _ _⟩⟩
  case round =>
    obtain ⟨k, c, hkm, hck, hc, rfl, rfl, hbr⟩ := hrel
    have HI : Kept (CInv wr hb bb lb cb sv (prTo xs ss fs n) (KS xs ss n)) := ⟨CP.below hinv.out hbr.out⟩
    have HB : Kept (Below w0.heap.size w0 wr) := ⟨hbel.out.trans (hbr.out.mono hbel.out.size)⟩
    have HR : Kept (RowI wr ak m (KS xs ss n)) := ⟨hrow.out.below hbr.out⟩
    by_cases hlt : k < m
    · obtain ⟨bk, ok, rfl, tk, rk⟩ := HR.out (by omega)
      have hlt' : (k : Int) < (m : Int) := by omega
      have rk' := rk k hlt
      clear rk
      have rk := rk'
      clear rk'
      obtain ⟨v, hv⟩ : ∃ v, v = (KS xs ss n).getD k 0 := ⟨_, rfl⟩
      rw [← hv] at rk
      have HV := Kept.mk hv
      clear hv
      have c12 := Kept.mk (occ_any (some ⟨bk, ok, none⟩) m pk k v (KS xs ss n) wr (by omega) (by omega) (by rw [hm.out]; exact Nat.le_refl _) HR)
      cases hocc : occ (KS xs ss n) k v with
      | true =>
        --[1
        rw [hocc] at c12
        have HO := Kept.mk hocc
        clear hocc
        go_wp2_with (go_at_call 12; refine c12.out.mono ?_; rintro e w' ⟨rfl, rfl⟩)
        go_roundw
        case rel => exact ⟨k + 1, c, by omega, by omega, dist_old (by rw [← hm.out]; exact hlt) hc HV HO, rfl, by go_num, hbr⟩
        case measure => (simp [intOf]; try omega)
        --]1
      | false =>
        --[2
        rw [hocc] at c12
        have HO := Kept.mk hocc
        clear hocc
        go_wp2_with (go_at_call 12; refine c12.out.mono ?_; rintro e w' ⟨rfl, rfl⟩)
        rename_i K2 hK2
        have HK2 := Kept.mk hK2
        clear hK2
        go_loopw [26, 27] (fun q i wq => ∃ j c' : Nat, j ≤ n ∧ c' ≤ 2 * j ∧ Kept (c' = (KS xs ss j).count v) ∧ q = .int .i64 c' ∧ i = .int .i64 j ∧ Kept (Below w.heap.size w wq)) (fun _ i _ => n - (intOf i).toNat)
        case atStart => exact ⟨0, 0, Nat.zero_le _, Nat.le_refl _, ⟨by simp [KS]⟩, rfl, rfl, hbr⟩
        case round =>
          obtain ⟨j, c', hjn, hcj, hq, rfl, rfl, hbr2⟩ := hrel
          have HB2 : Kept (Below w0.heap.size w0 wr) := ⟨hbel.out.trans (hbr2.out.mono hbel.out.size)⟩
          by_cases hltj : j < n
          · have hk0 : j < l0 := by have := E.n0; omega
            have hk1 : j < l1 := by have := E.n1; omega
            obtain ⟨b0, o0, rfl, t0, r0⟩ := E.r0 (by omega)
            obtain ⟨b1, o1, rfl, t1, r1⟩ := E.r1 (by omega)
            have hk0' : (j : Int) < (l0 : Int) := by omega
            have hk1' : (j : Int) < (l1 : Int) := by omega
            have y0 := (HB2.out.cell t0).trans (r0 j hk0)
            have y1 := (HB2.out.cell t1).trans (r1 j hk1)
            obtain ⟨x, hx⟩ : ∃ x, x = xs.getD j 0 := ⟨_, rfl⟩
            obtain ⟨s, hs⟩ : ∃ s, s = ss.getD j 0 := ⟨_, rfl⟩
            rw [← hx] at y0
            rw [← hs] at y1
            have HX := Kept.mk hx
            have HS := Kept.mk hs
            clear hx hs r0 r1
            --[2a
            go_wp2
            all_goals refine ⟨?_, by simp [intOf]; omega⟩
            all_goals first
              | exact ⟨j + 1, c', by omega, by omega, want00 hq HX HS ‹(x == v) = false› ‹(s == v) = false›, rfl, by go_num, hbr2⟩
              | exact ⟨j + 1, c', by omega, by omega, want0n hq HX HS ‹(x == v) = false› ‹¬ 0 ≤ s›, rfl, by go_num, hbr2⟩
              | exact ⟨j + 1, c' + 1, by omega, by omega, want01 hq HX HS ‹(x == v) = false› ‹0 ≤ s› ‹(s == v) = true›, by go_num, by go_num, hbr2⟩
              | exact ⟨j + 1, c' + 1, by omega, by omega, want10 hq HX HS ‹(x == v) = true› ‹(s == v) = false›, by go_num, by go_num, hbr2⟩
              | exact ⟨j + 1, c' + 1, by omega, by omega, want1n hq HX HS ‹(x == v) = true› ‹¬ 0 ≤ s›, by go_num, by go_num, hbr2⟩
              | exact ⟨j + 1, c' + 2, by omega, by omega, want11 hq HX HS ‹(x == v) = true› ‹0 ≤ s› ‹(s == v) = true›, by go_num, by go_num, hbr2⟩
            --]2a
          ·
            --[2b
            obtain rfl : j = n := by omega
            have HI2 : Kept (CInv wr hb bb lb cb sv (prTo xs ss fs j) (KS xs ss j)) := ⟨CP.below hinv.out hbr2.out⟩
            have hmem : v ∈ KS xs ss j := by rw [HV.out]; exact getD_mem (by rw [← hm.out]; exact hlt)
            have hwf : Kept ((Lit.int .i64 v).wf = true) := ⟨KS_wf (fun i hi => E.f0 i (by have := E.n0; omega)) (fun i hi => E.f1 i (by have := E.n1; omega)) v hmem⟩
            have c15 := busy_any hb bb lb cb sv _ _ v wr HI2 hwf
            rw [← hq.out, show (KS xs ss j).contains v = true from by rw [List.contains_iff_mem]; exact hmem] at c15
            have C15 := Kept.mk c15
            clear c15 hmem
            go_wp2
            refine HK2.out _ _ ?_
            go_wp2_with (go_at_call 15; refine C15.out.mono ?_; rintro e w' ⟨rfl, rfl⟩)
            go_roundw
            case rel => exact ⟨k + 1, c + 1, by omega, by omega, dist_new (by rw [← hm.out]; exact hlt) hc HV HO, by go_num, by go_num, hbr2⟩
            case measure => (simp [intOf]; try omega)
            --]2b
        --]2
    ·
      --[3
      obtain rfl : k = m := by omega
      have c16 := busyLen_any hb bb lb cb sv _ _ _ HI
      rw [show dist (KS xs ss n) = c from by rw [hc.out, hm.out, List.take_length]] at c16
      have C16 := Kept.mk c16
      clear c16
      go_wp2
      refine HK.out _ _ ?_
      go_wp2_with (go_at_call 16; refine C16.out.mono ?_; rintro e w' ⟨rfl, rfl⟩)
      go_ret
      exact ⟨rfl, HB.out⟩
      --]3

end Go.Proofs.Qxb6619182aMods
