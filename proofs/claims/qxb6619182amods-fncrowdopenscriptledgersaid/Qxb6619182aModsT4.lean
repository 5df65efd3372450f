import Derived.Test.Qxb6619182aModsT5
namespace Go.Proofs.Qxb6619182aMods
open Go.RowKit
set_option linter.unusedVariables false

set_option maxRecDepth 100000 in
set_option maxHeartbeats 4000000 in
theorem tailD {a0 a1 a2 : Option Addr} {l0 l1 l2 p0 p1 p2 n hb bb lb cb : Nat} {sv : Value} {xs ss : List Int} {fs : List Nat}  {u3 u4 u5 u6 u9 u10 u11 u12 u13 u14 u16 u17 u18 u19 u20 u21 u22 u23 u24 u25 u26 u27 u28 u29 u30 u31 u32 u33 u34 u35 u36 u37 u38 u39 u40 u41 u42 u43 u44 u45 u46 u47 u48 u49 u50 u51 u52 u53 u54 u55 u56 u57 u58 u59 u60 u61 u62 u63 u64 u65 u66 u67 u68 u69 u70 u71 u72 u73 u74 u75 u76 u77 u78 u79 u80 u81 u82 u83 u84 u85 u86 u87 u88 u89 u90 u91 u92 u93 u94 u95 u96 u97 u98 u99 u100 u101 u102 u103 u104 u105 u106 u107 u108 u109 u110 u111 u112 u113 u114 u115 u116 u117 u118 u119 u120 u121 u122 u123 u124 u125 u126 u127 u128 u129 u130 u131 u132 u133 u134 u135 u136 u137 u138 u139 u140 u141 u142 u143 u144 u145 u146 u147 u148 u149 u150 u151 u152 u153 u154 u155 u156 u157 u158 u159 u160 u161 u162 u163 u164 u165 u166 u167 u168 u169 u170 u171 u172 u173 u174 u175 u176 u177 u178 u179 u180 u181 u182 u183 u184 u185 u186 u187 u188 u189 u190 u191 u192 u193 u194 u195 u196 u197 u198 u199 u200 u201 u202 u203 u204 u205 u206 u207 u208 u209 u210 u211 u212 u213 u214 u215 u216 u217 u218 u219 u220 u221 u222 u223 u224 u225 u226 u227 u228 u229 u230 u231 u232 u233 u234 u235 u236 u237 u238 u239 u240 u241 u242 u243 u244 u245 u246 u247 u248 u249 u250 u251 u252 u253 u254 u255 u256 u257 u258 u259 u260 u261 u262 u263 u264 u265 u266 u267 u268 u269 u270 u271 u272 u273 u274 u275 u276 u277 u278 u279 u280 u281 : Value} {w0 w : World} (E : Env w0 a0 a1 a2 l0 l1 l2 n xs ss fs)
    (hbel : Kept (Below w0.heap.size w0 w)) (hinv : Kept (CInv w hb bb lb cb sv (prTo xs ss fs n) (KS xs ss n))) :
    Code.wp Trym.prog (spine 16 (Trym.f3.body.getD .skip)) (bodyPost Trym.prog Trym.f3 fun e w' => e = .returned (.bool true) ∧ Below w0.heap.size w0 w') ⟨#[.slice a0 l0 p0, .slice a1 l1 p1, .slice a2 l2 p2, u3, u4, u5, u6, .int .i64 n, .pointer (some ⟨cb, 0, none⟩), u9, u10, u11, u12, u13, u14, .int .i64 (dist (xs.take n) : Nat), u16, u17, u18, u19, u20, u21, u22, u23, u24, u25, u26, u27, u28, u29, u30, u31, u32, u33, u34, u35, u36, u37, u38, u39, u40, u41, u42, u43, u44, u45, u46, u47, u48, u49, u50, u51, u52, u53, u54, u55, u56, u57, u58, u59, u60, u61, u62, u63, u64, u65, u66, u67, u68, u69, u70, u71, u72, u73, u74, u75, u76, u77, u78, u79, u80, u81, u82, u83, u84, u85, u86, u87, u88, u89, u90, u91, u92, u93, u94, u95, u96, u97, u98, u99, u100, u101, u102, u103, u104, u105, u106, u107, u108, u109, u110, u111, u112, u113, u114, u115, u116, u117, u118, u119, u120, u121, u122, u123, u124, u125, u126, u127, u128, u129, u130, u131, u132, u133, u134, u135, u136, u137, u138, u139, u140, u141, u142, u143, u144, u145, u146, u147, u148, u149, u150, u151, u152, u153, u154, u155, u156, u157, u158, u159, u160, u161, u162, u163, u164, u165, u166, u167, u168, u169, u170, u171, u172, u173, u174, u175, u176, u177, u178, u179, u180, u181, u182, u183, u184, u185, u186, u187, u188, u189, u190, u191, u192, u193, u194, u195, u196, u197, u198, u199, u200, u201, u202, u203, u204, u205, u206, u207, u208, u209, u210, u211, u212, u213, u214, u215, u216, u217, u218, u219, u220, u221, u222, u223, u224, u225, u226, u227, u228, u229, u230, u231, u232, u233, u234, u235, u236, u237, u238, u239, u240, u241, u242, u243, u244, u245, u246, u247, u248, u249, u250, u251, u252, u253, u254, u255, u256, u257, u258, u259, u260, u261, u262, u263, u264, u265, u266, u267, u268, u269, u270, u271, u272, u273, u274, u275, u276, u277, u278, u279, u280, u281], []⟩ w := by
  have hn : n ≤ 4096 := by have := E.n0; have := E.m0; omega
  have hnx : n ≤ xs.length := by have := E.n0; have := E.g0; omega
  have c14 := holdLen_any hb bb lb cb sv _ _ _ hinv
  rw [prTo_fst xs ss fs n hnx] at c14
  have hdl : dist (xs.take n) ≤ 4096 := Nat.le_trans (dist_le _) (by rw [List.length_take]; omega)
  obtain ⟨d, hd⟩ : ∃ d, d = dist (xs.take n) := ⟨_, rfl⟩
  rw [← hd] at c14 hdl ⊢
  have C14 := Kept.mk c14
  clear c14 hd
  obtain ⟨i0, hi, hz0, hz1, hz2⟩ := info_parts Trym.info3
  have HN : Kept (Trym.prog.info? 3 = some i0 ∧ i0.zero = some (.int .i64 0) ∧ i0.size = 1 ∧ i0.bytes = 8) := ⟨hi, hz0, hz1, hz2⟩
  clear hi hz0 hz1 hz2
  conv => arg 2; whnf
  go_wp2_with (first | (go_at_call 14; refine C14.out.mono ?_; rintro e w' ⟨rfl, rfl⟩) | (at_make; refine wpList_make_own _ rfl _ _ 22 rfl w.heap.size 3 i0 (.int .i64 0) 1 Trym.underlying22 HN.out.1 HN.out.2.1 HN.out.2.2.1 .i64 .i64 _ (2 * n) rfl rfl (by omega) (by rw [HN.out.2.2.2]; omega) (by unfold maxLen; omega) (Nat.le_refl _) ?_; intro w1 hown1 hgrow1; have HOW := Kept.mk hown1; have HGR := Kept.mk hgrow1; clear hown1 hgrow1))
  rename_i K hK
  have HK := Kept.mk hK
  clear hK
  go_loopw [21, 22] (fun s i wr => ∃ k m g cap : Nat, k ≤ n ∧ m ≤ 2 * k ∧ Kept (m = (KS xs ss k).length) ∧ s = .slice (some ⟨g, 0, none⟩) m cap ∧ i = .int .i64 k ∧ Kept (Below w.heap.size w wr) ∧ Kept (wr.ownsRow w.heap.size 3 1 (.slice (some ⟨g, 0, none⟩) m cap) m (cells (KS xs ss k)))) (fun _ i _ => n - (intOf i).toNat)
  case atStart => exact ⟨0, 0, w.heap.size, 2 * n, Nat.zero_le _, Nat.le_refl _, ⟨rfl⟩, rfl, rfl, ⟨grown_below HGR.out (by simp) (Nat.le_refl _)⟩, HOW⟩
  case round =>
    obtain ⟨k, m, g, cap, hkn, hmk, hm, rfl, rfl, hbr, hown⟩ := hrel
    have HB : Kept (Below w0.heap.size w0 wr) := ⟨hbel.out.trans (hbr.out.mono hbel.out.size)⟩
    by_cases hlt : k < n
    · have hk0 : k < l0 := by have := E.n0; omega
      have hk1 : k < l1 := by have := E.n1; omega
      obtain ⟨b0, o0, rfl, t0, r0⟩ := E.r0 (by omega)
      obtain ⟨b1, o1, rfl, t1, r1⟩ := E.r1 (by omega)
      have hk0' : (k : Int) < (l0 : Int) := by omega
      have hk1' : (k : Int) < (l1 : Int) := by omega
      have y0 := (HB.out.cell (p := ⟨b0, o0 + k, none⟩) t0).trans (r0 k hk0)
      obtain ⟨x, hx⟩ : ∃ x, x = xs.getD k 0 := ⟨_, rfl⟩
      obtain ⟨s, hs⟩ : ∃ s, s = ss.getD k 0 := ⟨_, rfl⟩
      have R1 := Kept.mk (r1 k hk1)
      rw [← hx] at y0
      rw [← hs] at R1
      have HX := Kept.mk hx
      have HS := Kept.mk hs
      clear hx hs r0 r1
      by_cases hs0 : 0 ≤ s
      ·
        --[1
        go_wp2_with (first
          | (at_builtin; refine wpList_append_lies _ rfl (.tmp 202) (.tmp 207) 22 rfl w.heap.size 3 i0 _ 1 8 Trym.underlying22 HN.out.1 HN.out.2.1 HN.out.2.2.1 HN.out.2.2.2 rfl (by omega) (.slice (some ⟨g, 0, none⟩) m cap) m _ rfl (hown.out.alloc _) ⟨wr.heap.size, 0, none⟩ 1 1 [.int .i64 x] rfl rfl (World.news_of_block (cs := #[.int .i64 x]) (t := 3) (fr := (0, 0)) (heap_alloc_new wr _)) (one_int x) (by omega) (by unfold maxLen; omega) (by omega) (by have := hbr.out.size; simp; omega) _ rfl ?_; intro g1 cap1 w1 hown1 hgrow1 hat1 hlt1; obtain ⟨HW1, HO1⟩ := keys_step hbr hown hgrow1 hown1; have y1 := ((hbel.out.trans (HW1.out.mono hbel.out.size)).cell (p := ⟨b1, o1 + k, none⟩) t1).trans R1.out; clear hown1 hgrow1 hat1 hlt1)
          | (at_builtin; refine wpList_append_lies _ rfl (.tmp 214) (.tmp 219) 22 rfl w.heap.size 3 i0 _ 1 8 Trym.underlying22 HN.out.1 HN.out.2.1 HN.out.2.2.1 HN.out.2.2.2 rfl (by omega) (.slice (some ⟨g1, 0, none⟩) (m + 1) cap1) (m + 1) _ rfl (HO1.out.alloc _) ⟨w1.heap.size, 0, none⟩ 1 1 [.int .i64 s] rfl rfl (World.news_of_block (cs := #[.int .i64 s]) (t := 3) (fr := (0, 0)) (heap_alloc_new w1 _)) (one_int s) (by omega) (by unfold maxLen; omega) (by omega) (by have := HW1.out.size; simp; omega) _ rfl ?_; intro g2 cap2 w2 hown2 hgrow2 hat2 hlt2; obtain ⟨HW2, HO2⟩ := keys_step HW1 HO1 hgrow2 hown2; have y2 := ((hbel.out.trans (HW2.out.mono hbel.out.size)).cell (p := ⟨b1, o1 + k, none⟩) t1).trans R1.out; clear hown2 hgrow2 hat2 hlt2))
        go_roundw
        case rel => exact ⟨k + 1, m + 1 + 1, g2, cap2, by omega, by omega, ⟨by rw [cells_KS1 HX HS hs0]; simp only [List.length_append, List.length_singleton]; have := hm.out; omega⟩, rfl, by go_num, HW2, ⟨by rw [cells_KS1 HX HS hs0]; exact HO2.out⟩⟩
        case measure => (simp [intOf]; try omega)
        --]1
      ·
        --[2
        go_wp2_with (at_builtin; refine wpList_append_lies _ rfl (.tmp 202) (.tmp 207) 22 rfl w.heap.size 3 i0 _ 1 8 Trym.underlying22 HN.out.1 HN.out.2.1 HN.out.2.2.1 HN.out.2.2.2 rfl (by omega) (.slice (some ⟨g, 0, none⟩) m cap) m _ rfl (hown.out.alloc _) ⟨wr.heap.size, 0, none⟩ 1 1 [.int .i64 x] rfl rfl (World.news_of_block (cs := #[.int .i64 x]) (t := 3) (fr := (0, 0)) (heap_alloc_new wr _)) (one_int x) (by omega) (by unfold maxLen; omega) (by omega) (by have := hbr.out.size; simp; omega) _ rfl ?_; intro g1 cap1 w1 hown1 hgrow1 hat1 hlt1; obtain ⟨HW1, HO1⟩ := keys_step hbr hown hgrow1 hown1; have y1 := ((hbel.out.trans (HW1.out.mono hbel.out.size)).cell (p := ⟨b1, o1 + k, none⟩) t1).trans R1.out; clear hown1 hgrow1 hat1 hlt1)
        go_roundw
        case rel => exact ⟨k + 1, m + 1, g1, cap1, by omega, by omega, ⟨by rw [cells_KS0 HX HS hs0]; simp only [List.length_append, List.length_singleton]; have := hm.out; omega⟩, rfl, by go_num, HW1, ⟨by rw [cells_KS0 HX HS hs0]; exact HO1.out⟩⟩
        case measure => (simp [intOf]; try omega)
        --]2
    ·
      --[3
      obtain rfl : k = n := by omega
      go_wp2
      refine HK.out _ _ ?_
      exact tailE E HB ⟨CP.below hinv.out hbr.out⟩ hm ⟨rowI_of hown.out⟩
      --]3

end Go.Proofs.Qxb6619182aMods
