import Derived.Test.Qxb6619182aModsT2
import Derived.Test.Qxb6619182aModsOpened
namespace Go.Proofs.Qxb6619182aMods
open Go.RowKit
set_option linter.unusedVariables false

set_option maxRecDepth 100000 in
set_option maxHeartbeats 4000000 in
theorem tailA {a0 a1 a2 : Option Addr} {l0 l1 l2 p0 p1 p2 n : Nat} {xs ss : List Int} {fs : List Nat} {u3 u4 u5 u6 u8 u9 u10 u11 u12 u13 u14 u15 u16 u17 u18 u19 u20 u21 u22 u23 u24 u25 u26 u27 u28 u29 u30 u31 u32 u33 u34 u35 u36 u37 u38 u39 u40 u41 u42 u43 u44 u45 u46 u47 u48 u49 u50 u51 u52 u53 u54 u55 u56 u57 u58 u59 u60 u61 u62 u63 u64 u65 u66 u67 u68 u69 u70 u71 u72 u73 u74 u75 u76 u77 u78 u79 u80 u81 u82 u83 u84 u85 u86 u87 u88 u89 u90 u91 u92 u93 u94 u95 u96 u97 u98 u99 u100 u101 u102 u103 u104 u105 u106 u107 u108 u109 u110 u111 u112 u113 u114 u115 u116 u117 u118 u119 u120 u121 u122 u123 u124 u125 u126 u127 u128 u129 u130 u131 u132 u133 u134 u135 u136 u137 u138 u139 u140 u141 u142 u143 u144 u145 u146 u147 u148 u149 u150 u151 u152 u153 u154 u155 u156 u157 u158 u159 u160 u161 u162 u163 u164 u165 u166 u167 u168 u169 u170 u171 u172 u173 u174 u175 u176 u177 u178 u179 u180 u181 u182 u183 u184 u185 u186 u187 u188 u189 u190 u191 u192 u193 u194 u195 u196 u197 u198 u199 u200 u201 u202 u203 u204 u205 u206 u207 u208 u209 u210 u211 u212 u213 u214 u215 u216 u217 u218 u219 u220 u221 u222 u223 u224 u225 u226 u227 u228 u229 u230 u231 u232 u233 u234 u235 u236 u237 u238 u239 u240 u241 u242 u243 u244 u245 u246 u247 u248 u249 u250 u251 u252 u253 u254 u255 u256 u257 u258 u259 u260 u261 u262 u263 u264 u265 u266 u267 u268 u269 u270 u271 u272 u273 u274 u275 u276 u277 u278 u279 u280 u281 : Value} {w0 : World} (E : Env w0 a0 a1 a2 l0 l1 l2 n xs ss fs) :
    Code.wp Trym.prog (spine 9 (Trym.f3.body.getD .skip)) (bodyPost Trym.prog Trym.f3 fun e w' => e = .returned (.bool true) ∧ Below w0.heap.size w0 w') ⟨#[.slice a0 l0 p0, .slice a1 l1 p1, .slice a2 l2 p2, u3, u4, u5, u6, .int .i64 n, u8, u9, u10, u11, u12, u13, u14, u15, u16, u17, u18, u19, u20, u21, u22, u23, u24, u25, u26, u27, u28, u29, u30, u31, u32, u33, u34, u35, u36, u37, u38, u39, u40, u41, u42, u43, u44, u45, u46, u47, u48, u49, u50, u51, u52, u53, u54, u55, u56, u57, u58, u59, u60, u61, u62, u63, u64, u65, u66, u67, u68, u69, u70, u71, u72, u73, u74, u75, u76, u77, u78, u79, u80, u81, u82, u83, u84, u85, u86, u87, u88, u89, u90, u91, u92, u93, u94, u95, u96, u97, u98, u99, u100, u101, u102, u103, u104, u105, u106, u107, u108, u109, u110, u111, u112, u113, u114, u115, u116, u117, u118, u119, u120, u121, u122, u123, u124, u125, u126, u127, u128, u129, u130, u131, u132, u133, u134, u135, u136, u137, u138, u139, u140, u141, u142, u143, u144, u145, u146, u147, u148, u149, u150, u151, u152, u153, u154, u155, u156, u157, u158, u159, u160, u161, u162, u163, u164, u165, u166, u167, u168, u169, u170, u171, u172, u173, u174, u175, u176, u177, u178, u179, u180, u181, u182, u183, u184, u185, u186, u187, u188, u189, u190, u191, u192, u193, u194, u195, u196, u197, u198, u199, u200, u201, u202, u203, u204, u205, u206, u207, u208, u209, u210, u211, u212, u213, u214, u215, u216, u217, u218, u219, u220, u221, u222, u223, u224, u225, u226, u227, u228, u229, u230, u231, u232, u233, u234, u235, u236, u237, u238, u239, u240, u241, u242, u243, u244, u245, u246, u247, u248, u249, u250, u251, u252, u253, u254, u255, u256, u257, u258, u259, u260, u261, u262, u263, u264, u265, u266, u267, u268, u269, u270, u271, u272, u273, u274, u275, u276, u277, u278, u279, u280, u281], []⟩ w0 := by
  have hn : n ≤ 4096 := by have := E.n0; have := E.m0; omega
  conv => arg 2; whnf
  go_wp2_with (go_at_call 5; refine (new_any w0).mono ?_; rintro e w1 ⟨rfl, hc, hb⟩; have HC := Kept.mk hc; have HB1 := Kept.mk hb; clear hc hb)
  rename_i K hK
  have HK := Kept.mk hK
  clear hK
  go_loopw [9] (fun i wr => ∃ k : Nat, k ≤ n ∧ i = .int .i64 k ∧ Kept (∃ sv, CInv wr w0.heap.size (w0.heap.size + 1) (w0.heap.size + 2) (w0.heap.size + 3) sv (prTo xs ss fs k) (KS xs ss k)) ∧ Kept (Below w0.heap.size w0 wr)) (fun i _ => n - (intOf i).toNat)
  case atStart => exact ⟨0, Nat.zero_le _, rfl, ⟨_, HC.out⟩, HB1⟩
  case round =>
    obtain ⟨k, hkn, rfl, hinv, hbr⟩ := hrel
    by_cases hlt : k < n
    · have hk0 : k < l0 := by have := E.n0; omega
      have hk1 : k < l1 := by have := E.n1; omega
      have hk2 : k < l2 := by have := E.n2; omega
      obtain ⟨b0, o0, rfl, t0, r0⟩ := E.r0 (by omega)
      obtain ⟨b1, o1, rfl, t1, r1⟩ := E.r1 (by omega)
      obtain ⟨b2, o2, rfl, t2, r2⟩ := E.r2 (by omega)
      have hk0' : (k : Int) < (l0 : Int) := by omega
      have hk1' : (k : Int) < (l1 : Int) := by omega
      have hk2' : (k : Int) < (l2 : Int) := by omega
      have y0 := (hbr.out.cell (p := ⟨b0, o0 + k, none⟩) t0).trans (r0 k hk0)
      have y1 := (hbr.out.cell (p := ⟨b1, o1 + k, none⟩) t1).trans (r1 k hk1)
      have y2 := (hbr.out.cell (p := ⟨b2, o2 + k, none⟩) t2).trans (r2 k hk2)
      have wx : Kept ((Lit.int .i64 (xs.getD k 0)).wf = true) := ⟨E.f0 k hk0⟩
      have ws : Kept ((Lit.int .i64 (ss.getD k 0)).wf = true) := ⟨E.f1 k hk1⟩
      obtain ⟨x, hx⟩ : ∃ x, x = xs.getD k 0 := ⟨_, rfl⟩
      obtain ⟨s, hs⟩ : ∃ s, s = ss.getD k 0 := ⟨_, rfl⟩
      obtain ⟨f, hf⟩ : ∃ f, f = fs.getD k 0 := ⟨_, rfl⟩
      rw [← hx] at y0 wx
      rw [← hs] at y1 ws
      rw [← hf] at y2
      have HX := Kept.mk hx
      have HS := Kept.mk hs
      have HF := Kept.mk hf
      clear hx hs hf r0 r1 r2
      obtain ⟨sv, hsv⟩ := hinv.out
      have HI : Kept (CInv wr.drew w0.heap.size (w0.heap.size + 1) (w0.heap.size + 2) (w0.heap.size + 3) sv (prTo xs ss fs k) (KS xs ss k)) := ⟨CP.below hsv (Below.refl _ _).drew⟩
      have HBd : Kept (Below w0.heap.size w0 wr.drew) := ⟨hbr.out.drew⟩
      have HP : Kept ((prTo xs ss fs k).length ≤ 10000) := ⟨by rw [prTo_len]; omega⟩
      have HL : Kept ((KS xs ss k).length ≤ 20000) := ⟨by have := KS_length xs ss k; omega⟩
      have C6 := Kept.mk (zzopen_any _ _ _ _ sv _ _ x s f wr.drew HI wx ws HP HL)
      have HC6 := Kept.mk (open_step (xs := xs) (ss := ss) (fs := fs) (k := k) HX HS HF)
      clear hsv
      go_wp2
      go_region_held3 (fun w' => w'.cell? ⟨b0, o0 + k, none⟩ = some (.int .i64 x) ∧ w'.cell? ⟨b1, o1 + k, none⟩ = some (.int .i64 s) ∧ w'.cell? ⟨b2, o2 + k, none⟩ = some (.float .f64 f)) (go_keep) ((go_at_call 6; refine C6.out.mono ?_; rintro e w2 ⟨rfl, hc2, hb2⟩; have HC2 := Kept.mk hc2; have HB2 := Kept.mk (HBd.out.trans hb2); have z0 := (hb2.cell (p := ⟨b0, o0 + k, none⟩) t0).trans y0; have z1 := (hb2.cell (p := ⟨b1, o1 + k, none⟩) t1).trans y1; have z2 := (hb2.cell (p := ⟨b2, o2 + k, none⟩) t2).trans y2; clear hc2 hb2))
      go_wp2
      go_roundw
      case rel =>
        refine ⟨k + 1, by omega, by go_num, ?_, HB2⟩
        obtain ⟨sv', h2⟩ := HC2.out
        rw [HC6.out.1, HC6.out.2] at h2
        exact ⟨sv', h2⟩
      case measure => (simp [intOf]; try omega)
    · obtain rfl : k = n := by omega
      obtain ⟨sv, hsv⟩ := hinv.out
      have HI := Kept.mk hsv
      clear hsv
      go_wp2
      refine HK.out _ _ ?_
      exact tailB E hbr HI

end Go.Proofs.Qxb6619182aMods
