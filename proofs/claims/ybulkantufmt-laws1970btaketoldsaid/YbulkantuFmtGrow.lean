/-
  DERIVED. ONE REGION OF THE LAW: 'm[i].marks = append(m[i].marks, ..)', over a frame of letters (written by a small script of mine).
-/
import Derived.Test.YbulkantuFmtLast
namespace Go.Proofs.YbulkantuFmt
open Go.RowKit Go.Extern.Stop Go.Stop Go.Extern
attribute [local go_sem ↓] Go.wp_at_zero Go.wp_at_succ

def findRegion (i : Nat) : Code → Option Code
  | .region id ops b => if id == i then some (.region id ops b) else none
  | .seq a b => match findRegion i a with
    | some c => some c
    | none => findRegion i b
  | .cond _ a b => match findRegion i a with
    | some c => some c
    | none => findRegion i b
  | .block _ c => findRegion i c
  | .loop c => findRegion i c
  | .scope c => findRegion i c
  | _ => none

set_option maxRecDepth 1000000 in
set_option maxHeartbeats 16000000 in
theorem region36 (c0 c1 c2 c3 c4 c5 c6 c7 c8 c10 c11 c12 c15 c16 c17 c18 c19 c20 c21 c22 c23 c24 c25 c26 c27 c28 c29 c30 c31 c32 c33 c34 c35 c36 c37 c38 c39 c40 c41 c42 c43 c44 c45 c46 c47 c48 c49 c50 c51 c52 c53 c54 c55 c56 c57 c58 c59 c60 c61 c62 c63 c64 c65 c66 c67 c68 c69 c70 c71 c72 c73 c74 c75 c76 c77 c78 c79 c80 c81 c82 c83 c84 c85 c86 c87 c88 c89 c90 c91 c92 c93 c94 c95 c96 c97 c98 c99 c100 c101 c102 c103 c104 c105 c106 c107 c108 c109 c110 c111 c112 c113 c114 c115 c116 c117 c118 c119 c120 c121 c122 c123 c124 c125 c126 c127 c128 c129 c130 c131 c132 c133 c134 c135 c136 c137 c138 c139 c140 c141 c142 c143 c144 c145 c146 c147 c148 c149 c150 c151 c152 c153 c154 c155 c156 c157 c158 c159 c160 c161 c162 c163 c164 c165 c166 c167 c168 c169 c170 c171 c172 c173 c174 c175 c176 c177 c178 c179 c180 c181 c182 c183 c184 c185 c186 c187 c188 c189 c190 c191 c192 c193 c194 c195 c196 c197 c198 c199 c200 c201 c202 c203 c204 c205 c206 c207 c208 c209 c210 c211 c212 c213 c214 c215 c216 c217 c218 c219 c220 c221 c222 c223 c224 c225 c226 c227 c228 c229 c230 c231 c232 c233 c234 c235 c236 c237 c238 c239 c240 c241 c242 c243 c244 c245 c246 c247 c248 c249 c250 c251 c252 c253 c254 c255 c256 c257 c258 c259 c260 c261 c262 c263 c264 c265 c266 c267 c268 c269 c270 c271 c272 c273 c274 c275 c276 c277 c278 c279 c280 c281 c282 c283 c284 c285 c286 c287 c288 c289 c290 c291 c292 c293 c294 c295 c296 c297 c298 c299 c300 c301 c302 c303 c304 c305 c306 c307 c308 c309 c310 c311 c312 c313 c314 c315 c316 c317 c318 c319 c320 c321 c322 c323 c324 c325 c326 c327 c328 c329 c330 c331 c332 c333 c334 c335 c336 c337 c338 : Value)
    (W W5 : World) (B : Nat) (ch : Int) (d : Nat → Dev) (ls : Nat → Bool) (cv mv : Nat → Value) (i z : Nat) (q x : Int) (e : Dev) (hi3 : i < 3) (HDV : Hid (e = ⟨true, (d i).stamp, (d i).seq, (d i).dig, (d i).marks ++ [(q, x)]⟩))
    (U5 : Hid (Duo W W5 B false ch (upd d i e) ls cv (some i) q ((mRow d ls ch mv).set (i * 7) (.bool true)) mv (fun j => (d j).marks))) (q1 : W5.cell? ⟨z, 1, none⟩ = some (.int .u64 q)) (q3 : W5.cell? ⟨z, 3, none⟩ = some (.int .u8 x))
    (HFAR : Hid (∀ g, (mv i).ownBlock = some g → g ≠ z ∧ g ≠ B + 4 ∧ g ≠ B + 3)) (hlen : (d i).marks.length ≤ 1024) (hneq' : B + 4 ≠ z) :
    Code.wp Ybaf.prog ((Ybaf.f3.body.bind (findRegion 36)).getD .skip) (NoPanic fun ex a' w' => ex = .normal ∧ ∃ g cap, a' = ⟨#[c0, c1, c2, c3, c4, c5, c6, c7, c8, .pointer (some ⟨B + 4, 0, none⟩), c10, c11, c12, .pointer (some ⟨z, 0, none⟩), .int .i64 (i : Nat), c15, c16, c17, c18, c19, c20, c21, c22, c23, c24, c25, c26, c27, c28, c29, c30, c31, c32, c33, c34, c35, c36, c37, c38, c39, c40, c41, c42, c43, c44, c45, c46, c47, c48, c49, c50, c51, c52, c53, c54, c55, c56, c57, c58, c59, c60, c61, c62, c63, c64, c65, c66, c67, c68, c69, c70, c71, c72, c73, c74, c75, c76, c77, c78, c79, c80, c81, c82, c83, c84, c85, c86, c87, c88, c89, c90, c91, c92, c93, c94, c95, c96, c97, c98, c99, c100, c101, c102, c103, c104, c105, c106, c107, c108, c109, c110, c111, c112, c113, c114, c115, c116, c117, c118, c119, c120, c121, c122, c123, c124, c125, c126, c127, c128, .int .i64 (i : Nat), .int .i64 (i : Nat), .pointer (some ⟨B + 4, i * 7, none⟩), .pointer (some ⟨B + 4, i * 7 + 4, none⟩), mv i, .pointer (some ⟨z, 1, none⟩), .int .u64 q, .pointer (some ⟨z, 3, none⟩), .int .u8 x, .agg #[.int .u64 q, .int .u8 x], .slice (some ⟨W5.heap.size, 0, none⟩) 1 1, .slice (some ⟨g, 0, none⟩) ((d i).marks.length + 1) cap, .pointer (some ⟨B + 4, i * 7, none⟩), .pointer (some ⟨B + 4, i * 7 + 4, none⟩), c143, c144, c145, c146, c147, c148, c149, c150, c151, c152, c153, c154, c155, c156, c157, c158, c159, c160, c161, c162, c163, c164, c165, c166, c167, c168, c169, c170, c171, c172, c173, c174, c175, c176, c177, c178, c179, c180, c181, c182, c183, c184, c185, c186, c187, c188, c189, c190, c191, c192, c193, c194, c195, c196, c197, c198, c199, c200, c201, c202, c203, c204, c205, c206, c207, c208, c209, c210, c211, c212, c213, c214, c215, c216, c217, c218, c219, c220, c221, c222, c223, c224, c225, c226, c227, c228, c229, c230, c231, c232, c233, c234, c235, c236, c237, c238, c239, c240, c241, c242, c243, c244, c245, c246, c247, c248, c249, c250, c251, c252, c253, c254, c255, c256, c257, c258, c259, c260, c261, c262, c263, c264, c265, c266, c267, c268, c269, c270, c271, c272, c273, c274, c275, c276, c277, c278, c279, c280, c281, c282, c283, c284, c285, c286, c287, c288, c289, c290, c291, c292, c293, c294, c295, c296, c297, c298, c299, c300, c301, c302, c303, c304, c305, c306, c307, c308, c309, c310, c311, c312, c313, c314, c315, c316, c317, c318, c319, c320, c321, c322, c323, c324, c325, c326, c327, c328, c329, c330, c331, c332, c333, c334, c335, c336, c337, c338], []⟩ ∧ (Duo W w' B false ch (upd d i e) ls cv (some i) q (mRow (upd d i e) ls ch (upd mv i (.slice (some ⟨g, 0, none⟩) ((d i).marks.length + 1) cap))) (upd mv i (.slice (some ⟨g, 0, none⟩) ((d i).marks.length + 1) cap)) (fun j => (upd d i e j).marks) ∧ w'.cell? ⟨z, 1, none⟩ = some (.int .u64 q)))
      ⟨#[c0, c1, c2, c3, c4, c5, c6, c7, c8, .pointer (some ⟨B + 4, 0, none⟩), c10, c11, c12, .pointer (some ⟨z, 0, none⟩), .int .i64 (i : Nat), c15, c16, c17, c18, c19, c20, c21, c22, c23, c24, c25, c26, c27, c28, c29, c30, c31, c32, c33, c34, c35, c36, c37, c38, c39, c40, c41, c42, c43, c44, c45, c46, c47, c48, c49, c50, c51, c52, c53, c54, c55, c56, c57, c58, c59, c60, c61, c62, c63, c64, c65, c66, c67, c68, c69, c70, c71, c72, c73, c74, c75, c76, c77, c78, c79, c80, c81, c82, c83, c84, c85, c86, c87, c88, c89, c90, c91, c92, c93, c94, c95, c96, c97, c98, c99, c100, c101, c102, c103, c104, c105, c106, c107, c108, c109, c110, c111, c112, c113, c114, c115, c116, c117, c118, c119, c120, c121, c122, c123, c124, c125, c126, c127, c128, c129, c130, c131, c132, c133, c134, c135, c136, c137, c138, c139, c140, c141, c142, c143, c144, c145, c146, c147, c148, c149, c150, c151, c152, c153, c154, c155, c156, c157, c158, c159, c160, c161, c162, c163, c164, c165, c166, c167, c168, c169, c170, c171, c172, c173, c174, c175, c176, c177, c178, c179, c180, c181, c182, c183, c184, c185, c186, c187, c188, c189, c190, c191, c192, c193, c194, c195, c196, c197, c198, c199, c200, c201, c202, c203, c204, c205, c206, c207, c208, c209, c210, c211, c212, c213, c214, c215, c216, c217, c218, c219, c220, c221, c222, c223, c224, c225, c226, c227, c228, c229, c230, c231, c232, c233, c234, c235, c236, c237, c238, c239, c240, c241, c242, c243, c244, c245, c246, c247, c248, c249, c250, c251, c252, c253, c254, c255, c256, c257, c258, c259, c260, c261, c262, c263, c264, c265, c266, c267, c268, c269, c270, c271, c272, c273, c274, c275, c276, c277, c278, c279, c280, c281, c282, c283, c284, c285, c286, c287, c288, c289, c290, c291, c292, c293, c294, c295, c296, c297, c298, c299, c300, c301, c302, c303, c304, c305, c306, c307, c308, c309, c310, c311, c312, c313, c314, c315, c316, c317, c318, c319, c320, c321, c322, c323, c324, c325, c326, c327, c328, c329, c330, c331, c332, c333, c334, c335, c336, c337, c338], []⟩ W5 := by
  conv => arg 2; whnf
  obtain ⟨i0, hi0, iz0, iz1, iz2⟩ := info_parts Ybaf.info60
  have m4 : W5.cell? ⟨B + 4, i * 7 + 4, none⟩ = some (mv i) := by
    rw [cell_of_row W5 (B + 4) _ _ 38 (0, 0) U5.out.row, List.getElem?_toArray, List.getElem?_set_ne (by omega)]
    exact mRow_get d ls ch mv i 4 hi3 (by omega)
  have f5 : W5.frozen? ⟨B + 4, i * 7 + 4, none⟩ = false := free_of_row U5.out.row
  have OWN := hide (U5.out.own i hi3)
  have hl5 : z < W5.heap.size := World.block_lt_of_cell? W5 ⟨z, 1, none⟩ q1
  have hb5 : B + 4 < W5.heap.size := lt_of_block U5.out.row
  have fz : ∀ o, (W5.alloc o).drew.frozen? ⟨B + 4, i * 7 + 4, none⟩ = false := fun o => (World.frozen?_of_block (Below.heap_alloc _ _ _ hb5)).trans f5
  have hi0' : (0 : Int) ≤ (i : Int) := Int.natCast_nonneg _
  have hi1' : (i : Int) < 3 := by omega
  go_region_law ((refine step_append_lies _ (by rfl) _ _ _ (by rfl) (B + 5) 60 i0 _ 2 16 Ybaf.underlying35 hi0 iz0 iz1 iz2 rfl (by omega) (mv i) (d i).marks.length (pairCells (d i).marks) (by rfl) ((OWN.out.alloc _).drew) ⟨W5.heap.size, 0, none⟩ 1 1 [.int .u64 q, .int .u8 x] (by rfl) (by rfl) (World.news_of_block (cs := #[.int .u64 q, .int .u8 x]) (t := 60) (fr := (0, 0)) (heap_alloc_new W5 _)) (by simp [Value.oneCell']) (by omega) (by simp [maxLen]; omega) (by omega) (by simp; omega) (W5.heap.size + 1) (by simp) ?_; intro g cap w6 hown6 hgrow hat hlt6; have m6 : w6.cell? ⟨B + 4, i * 7 + 4, none⟩ = some (mv i) := (hgrow.cell_far _ (by simp; omega) (fun h => (HFAR.out _ h.symm).2.1 rfl)).trans ((World.cell?_of_block (Below.heap_alloc _ _ _ hb5)).trans m4); have f6 : w6.frozen? ⟨B + 4, i * 7 + 4, none⟩ = false := (hgrow.frozen_far _ (by simp; omega) (fun h => (HFAR.out _ h.symm).2.1 rfl)).trans (fz _); have q6 : w6.cell? ⟨z, 1, none⟩ = some (.int .u64 q) := (hgrow.cell_far _ (by simp; omega) (fun h => (HFAR.out _ h.symm).1 rfl)).trans ((World.cell?_of_block (Below.heap_alloc _ _ _ hl5)).trans q1)))
  all_goals
    refine NoPanic.normal ⟨rfl, g, cap, rfl, ?_, (World.cell?_setCell_far _ _ _ _ hneq').trans q6⟩
    refine (U5.out.later (below_drewN ((Below.refl _ W5).alloc (Nat.le_refl _) _) 1)).mark HDV.out hi3 hgrow hown6 ?_
    rcases hat with h | h
    · exact .inl h.symm
    · refine .inr ?_
      rw [h]
      simp [Value.ownBlock]
end Go.Proofs.YbulkantuFmt
