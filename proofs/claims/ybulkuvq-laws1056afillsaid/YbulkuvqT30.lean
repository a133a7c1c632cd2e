import Derived.Test.YbulkuvqT33
namespace Go.Proofs.Ybulkuvq
open Go Go.RowKit
set_option linter.unusedVariables false

set_option maxRecDepth 1000000 in
set_option maxHeartbeats 8000000 in
theorem tail30 (hal : Nat → Int) (opn : Nat → Bool) (dec : Nat → Int) (age : Int) (wcv cov : Nat → Int) (med : Bool) (cu ac : Int) (s i j : Nat) (hs : s < 2) (hi : i < 2) (hj : j < 2) (inC : Array Value) (n17 : inC[17]? = some (.int .i64 age)) (n42 : inC[42]? = some (.bool med)) (n44 : inC[44]? = some (.int .u32 cu)) (n45 : inC[45]? = some (.int .u32 ac)) (yz : Array Value) (hyz : yz.size = 184) (hy : ∀ W : World, (Op.equalIn 9999 42 (.agg yz) (.agg yz)).run Yba.prog W = .ok true W) (mf : Option Addr) (hmf : mf.isSome = med) (B : Nat) (w0 W : World) (g : Below B w0 W) (oB : B ≤ W.heap.size) (cu0 : 0 ≤ cu) (cu1 : cu ≤ 4294967295) (ac0 : 0 ≤ ac) (ac1 : ac ≤ 4294967295) (bI bC bF bP bV : Nat) (hI : W.heap[bI]? = some (.cells inC 28 (0, 0))) (hC : W.heap[bC]? = some (.cells (yz ++ C30 hal opn dec) 50 (0, 0))) (hF : W.heap[bF]? = some (.cells (yz ++ C30 hal opn dec) 50 (0, 0))) (hP : W.heap[bP]? = some (.cells (A14 age (fun j => wcv j % 3) (.pointer mf)) 54 (0, 0))) (hV : W.heap[bV]? = some (.cells (A12 (fun j => cov j % 3)) 30 (0, 0))) (u0 u2 u7 u8 u9 u12 u15 u16 u17 u18 u19 u20 u21 u22 u23 u24 u25 u26 u27 u28 u29 u30 u31 u32 u33 u34 u35 u36 u37 u38 u39 u40 u41 u42 u43 u44 u45 u46 u47 u48 u49 u50 u51 u52 u53 u54 u55 u56 u57 u58 u59 u60 u61 u62 u63 u64 u65 u66 u67 u68 u69 u70 u71 u72 u73 u74 u75 u76 u77 u78 u79 u80 u81 u82 u83 u84 u85 u86 u87 u88 u89 u90 u91 u92 u93 u94 u95 u96 u97 u98 u99 u100 u101 u102 u103 u104 u105 u106 u107 u108 u109 u110 u111 u112 u113 u114 u115 u116 u117 u118 u119 u120 u121 u122 u123 u124 u125 u126 u127 u128 u129 u130 u131 u132 u133 u134 u135 u136 u137 u138 u139 u140 u141 u142 u143 u144 u145 u146 u147 u148 u149 u150 u151 u152 u153 u154 u155 u156 u157 u158 u159 u160 u161 u162 u163 u164 u165 u166 u167 u168 u169 u170 u171 u172 u173 u174 u175 u176 u177 u178 u179 u180 u181 u182 u183 u184 u185 u186 u187 u188 u189 u190 u191 u192 u193 u194 u195 u196 u197 u198 u199 u200 u201 u202 u203 u204 u205 u206 u207 u208 u209 u210 u211 u212 u213 u214 u215 u216 u217 u218 u219 u220 u221 u222 u223 u224 u225 u226 u227 u228 u229 u230 u231 u232 u233 u234 u235 u236 u237 u238 u239 u240 u241 u242 u243 u244 u245 u246 u247 u248 u249 u250 u251 u252 u253 u254 u255 u256 u257 u258 u259 u260 u261 u262 u263 u264 u265 u266 u267 u268 u269 u270 u271 u272 u273 u274 u275 u276 u277 u278 u279 u280 u281 u282 u283 u284 : Value) (K : Act → World → Prop)
    (hK : ∀ (a : Act) (w : World), Code.wp Yba.prog (seqDrop 15 (Yba.f3.body.getD .skip)) (bodyPost Yba.prog Yba.f3 (fun e w' => e = .returned (.bool true) ∧ Below B w0 w')) a w → K a w) :
    Code.wp Yba.prog ((Yba.f3.body.bind (findReg 30)).getD .skip) (Exit.then K (bodyPost Yba.prog Yba.f3 (fun e w' => e = .returned (.bool true) ∧ Below B w0 w'))) ⟨(u0 :: .pointer (some ⟨bI, 0, none⟩) :: u2 :: .int .i64 s :: .int .i64 i :: .int .i64 j :: .pointer (some ⟨bC, 0, none⟩) :: u7 :: u8 :: u9 :: .pointer (some ⟨bP, 0, none⟩) :: .pointer (some ⟨bV, 0, none⟩) :: u12 :: .pointer mf :: .pointer (some ⟨bF, 0, none⟩) :: u15 :: u16 :: u17 :: u18 :: u19 :: u20 :: u21 :: u22 :: u23 :: u24 :: u25 :: u26 :: u27 :: u28 :: u29 :: u30 :: u31 :: u32 :: u33 :: u34 :: u35 :: u36 :: u37 :: u38 :: u39 :: u40 :: u41 :: u42 :: u43 :: u44 :: u45 :: u46 :: u47 :: u48 :: u49 :: u50 :: u51 :: u52 :: u53 :: u54 :: u55 :: u56 :: u57 :: u58 :: u59 :: u60 :: u61 :: u62 :: u63 :: u64 :: u65 :: u66 :: u67 :: u68 :: u69 :: u70 :: u71 :: u72 :: u73 :: u74 :: u75 :: u76 :: u77 :: u78 :: u79 :: u80 :: u81 :: u82 :: u83 :: u84 :: u85 :: u86 :: u87 :: u88 :: u89 :: u90 :: u91 :: u92 :: u93 :: u94 :: u95 :: u96 :: u97 :: u98 :: u99 :: u100 :: u101 :: u102 :: u103 :: u104 :: u105 :: u106 :: u107 :: u108 :: u109 :: u110 :: u111 :: u112 :: u113 :: u114 :: u115 :: u116 :: u117 :: u118 :: u119 :: u120 :: u121 :: u122 :: u123 :: u124 :: u125 :: u126 :: u127 :: u128 :: u129 :: u130 :: u131 :: u132 :: u133 :: u134 :: u135 :: u136 :: u137 :: u138 :: u139 :: u140 :: u141 :: u142 :: u143 :: u144 :: u145 :: u146 :: u147 :: u148 :: u149 :: u150 :: u151 :: u152 :: u153 :: u154 :: u155 :: u156 :: u157 :: u158 :: u159 :: u160 :: u161 :: u162 :: u163 :: u164 :: u165 :: u166 :: u167 :: u168 :: u169 :: u170 :: u171 :: u172 :: u173 :: u174 :: u175 :: u176 :: u177 :: u178 :: u179 :: u180 :: u181 :: u182 :: u183 :: u184 :: u185 :: u186 :: u187 :: u188 :: u189 :: u190 :: u191 :: u192 :: u193 :: u194 :: u195 :: u196 :: u197 :: u198 :: u199 :: u200 :: u201 :: u202 :: u203 :: u204 :: u205 :: u206 :: u207 :: u208 :: u209 :: u210 :: u211 :: u212 :: u213 :: u214 :: u215 :: u216 :: u217 :: u218 :: u219 :: u220 :: u221 :: u222 :: u223 :: u224 :: u225 :: u226 :: u227 :: u228 :: u229 :: u230 :: u231 :: u232 :: u233 :: u234 :: u235 :: u236 :: u237 :: u238 :: u239 :: u240 :: u241 :: u242 :: u243 :: u244 :: u245 :: u246 :: u247 :: u248 :: u249 :: u250 :: u251 :: u252 :: u253 :: u254 :: u255 :: u256 :: u257 :: u258 :: u259 :: u260 :: u261 :: u262 :: u263 :: u264 :: u265 :: u266 :: u267 :: u268 :: u269 :: u270 :: u271 :: u272 :: u273 :: u274 :: u275 :: u276 :: u277 :: u278 :: u279 :: u280 :: u281 :: u282 :: u283 :: u284 :: []).toArray, []⟩ W := by
  have p0 := blk_cell (v := .int .i64 age) hP (i := 0) rfl
  have p1 := blk_cell (v := .int .i64 (wcv 0 % 3)) hP (i := 1) rfl
  have p2 := blk_cell (v := .int .i64 (wcv 1 % 3)) hP (i := 2) rfl
  have p3 := blk_cell (v := .int .i64 (wcv 2 % 3)) hP (i := 3) rfl
  have p4 := blk_cell (v := .int .i64 (wcv 3 % 3)) hP (i := 4) rfl
  have p5 := blk_cell (v := .int .i64 (wcv 4 % 3)) hP (i := 5) rfl
  have p6 := blk_cell (v := .int .i64 (wcv 5 % 3)) hP (i := 6) rfl
  have p7 := blk_cell (v := .int .i64 (wcv 6 % 3)) hP (i := 7) rfl
  have p8 := blk_cell (v := .int .i64 (wcv 7 % 3)) hP (i := 8) rfl
  have p9 := blk_cell (v := .int .i64 (wcv 8 % 3)) hP (i := 9) rfl
  have p10 := blk_cell (v := .int .i64 (wcv 9 % 3)) hP (i := 10) rfl
  have p11 := blk_cell (v := .int .i64 (wcv 10 % 3)) hP (i := 11) rfl
  have p12 := blk_cell (v := .int .i64 (wcv 11 % 3)) hP (i := 12) rfl
  have p13 := blk_cell (v := .pointer mf) hP (i := 13) rfl
  have v0 := blk_cell (v := .int .i64 (cov 0 % 3)) hV (i := 0) rfl
  have v1 := blk_cell (v := .int .i64 (cov 1 % 3)) hV (i := 1) rfl
  have v2 := blk_cell (v := .int .i64 (cov 2 % 3)) hV (i := 2) rfl
  have v3 := blk_cell (v := .int .i64 (cov 3 % 3)) hV (i := 3) rfl
  have v4 := blk_cell (v := .int .i64 (cov 4 % 3)) hV (i := 4) rfl
  have v5 := blk_cell (v := .int .i64 (cov 5 % 3)) hV (i := 5) rfl
  have v6 := blk_cell (v := .int .i64 (cov 6 % 3)) hV (i := 6) rfl
  have v7 := blk_cell (v := .int .i64 (cov 7 % 3)) hV (i := 7) rfl
  have v8 := blk_cell (v := .int .i64 (cov 8 % 3)) hV (i := 8) rfl
  have v9 := blk_cell (v := .int .i64 (cov 9 % 3)) hV (i := 9) rfl
  have v10 := blk_cell (v := .int .i64 (cov 10 % 3)) hV (i := 10) rfl
  have v11 := blk_cell (v := .int .i64 (cov 11 % 3)) hV (i := 11) rfl
  have lP : bP < W.heap.size := (Array.getElem?_eq_some_iff.1 hP).1
  have lV : bV < W.heap.size := (Array.getElem?_eq_some_iff.1 hV).1
  have lV1 : bV < W.heap.size + 1 := by omega
  have HK := hK
  clear hK
  conv => arg 2; whnf
  apply wp_region_lit
  go_wp2_with fail
  conv => arg 2; whnf
  go_upto_region 33 with fail
  refine tail33 hal opn dec age wcv cov med cu ac s i j hs hi hj inC n17 n42 n44 n45 yz hyz hy mf hmf B w0 _ ?_ ?_ cu0 cu1 ac0 ac1 bI bC bF bP W.heap.size bV (W.heap.size + 1) (W.heap.size + 1 + 1) ?_ ?_ ?_ ?_ ?_ ?_ ?_ ?_ _ _ _ _ _ _ _ _ _ _ _ _ _ _ _ _ _ _ _ _ _ _ _ _ _ _ _ _ _ _ _ _ _ _ _ _ _ _ _ _ _ _ _ _ _ _ _ _ _ _ _ _ _ _ _ _ _ _ _ _ _ _ _ _ _ _ _ _ _ _ _ _ _ _ _ _ _ _ _ _ _ _ _ _ _ _ _ _ _ _ _ _ _ _ _ _ _ _ _ _ _ _ _ _ _ _ _ _ _ _ _ _ _ _ _ _ _ _ _ _ _ _ _ _ _ _ _ _ _ _ _ _ _ _ _ _ _ _ _ _ _ _ _ _ _ _ _ _ _ _ _ _ _ _ _ _ _ _ _ _ _ _ _ _ _ _ _ _ _ _ _ _ _ _ _ _ _ _ _ _ _ _ _ _ _ _ _ _ _ _ _ _ _ _ _ _ _ _ _ _ _ _ _ _ _ _ _ _ _ _ _ _ _ _ _ _ _ _ _ _ _ _ _ _ _ _ _ _ _ _ _ _ _ _ _ _ _ _ _ _ _ _ _ _ _ _ _ _ _ _ _ _ _ _ _ _ _ _ _ _ _ _ _ _ _ _ _ _ _ _ _ _ _ _ (by assumption)
  · exact g.trans ((show Below W.heap.size W _ from (by repeat (first | exact Below.refl _ _ | refine Below.drew ?_ | refine Below.alloc ?_ (by simp <;> omega) _ | refine Below.setCell ?_ (by simp <;> omega) _))).mono oB)
  · exact Nat.le_trans oB (show Below W.heap.size W _ from (by repeat (first | exact Below.refl _ _ | refine Below.drew ?_ | refine Below.alloc ?_ (by simp <;> omega) _ | refine Below.setCell ?_ (by simp <;> omega) _))).size
  · exact keep (by repeat (first | exact Below.refl _ _ | refine Below.drew ?_ | refine Below.alloc ?_ (by simp <;> omega) _ | refine Below.setCell ?_ (by simp <;> omega) _)) hI
  · exact keep (by repeat (first | exact Below.refl _ _ | refine Below.drew ?_ | refine Below.alloc ?_ (by simp <;> omega) _ | refine Below.setCell ?_ (by simp <;> omega) _)) hC
  · exact keep (by repeat (first | exact Below.refl _ _ | refine Below.drew ?_ | refine Below.alloc ?_ (by simp <;> omega) _ | refine Below.setCell ?_ (by simp <;> omega) _)) hF
  · exact keep (by repeat (first | exact Below.refl _ _ | refine Below.drew ?_ | refine Below.alloc ?_ (by simp <;> omega) _ | refine Below.setCell ?_ (by simp <;> omega) _)) hP
  · exact heap_old (by simp <;> omega) (heap_old (by simp) (heap_new (by simp)))
  · exact keep (by repeat (first | exact Below.refl _ _ | refine Below.drew ?_ | refine Below.alloc ?_ (by simp <;> omega) _ | refine Below.setCell ?_ (by simp <;> omega) _)) hV
  · exact heap_old (by simp) (heap_new (by simp))
  · exact (heap_new (by simp))
end Go.Proofs.Ybulkuvq
