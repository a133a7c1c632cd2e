import Derived.Test.YbulkuvqEq
import Derived.BigQuiet
import Derived.Laws.Rows
import Derived.Conc.WalkWords
namespace Go.Proofs.Ybulkuvq
open Go Go.RowKit
set_option linter.unusedVariables false

theorem quiet_val {P : Program} {ops : Array Oper} {C : World → Prop} {Q : Act → Prop} {a : Act} {o : Oper} {rest : List Oper} {v : Value} (hw : Region.wanted o (yielded ops a.tmps) = true)
    (hv : ∀ w, C w → (execOp a.eval o).run P w = .ok (.value v) w) (h : wpQuiet P ops C Q rest (a.put o.dst v)) : wpQuiet P ops C Q (o :: rest) a := by
  unfold wpQuiet
  rw [if_pos hw]
  exact ⟨v, fun w hC => by unfold Oper.quietAt; rw [hv w hC]; exact ⟨rfl, rfl⟩, h⟩
theorem exec_load {P : Program} {ρ : Operand → Value} {o : Oper} {T : TypeId} {t : Operand} {x : Addr} {V : Value} {w : World} (ho : o.op = .load T t) (hx : ρ t = .pointer (some x)) (hl : (loadVar T x).run P w = .ok V w) :
    (execOp ρ o).run P w = .ok (.value V) w := by
  unfold execOp
  simp only [ho, hx, Instr.loadAt, Instr.sureAddr, Sem.run_bind, Sem.run_pure, Result.andThen_ok, hl]
theorem exec_eq {P : Program} {ρ : Operand → Value} {o : Oper} {T T' : TypeId} {x y : Operand} {a b : Array Value} {w : World} (ho : o.op = .binOp .eql T x y T') (hx : ρ x = .agg a) (hy : ρ y = .agg b)
    (hg : P.eqGuardType P.depth T = false) (he : (binOp .eql T (.agg a) (.agg b)).run P w = .ok (.bool true) w) : (execOp ρ o).run P w = .ok (.value (.bool true)) w := by
  unfold execOp
  simp only [ho, hx, hy, Sem.run_bind, Sem.run_pure, Result.andThen_ok, run_eqGuard_agg w .eql T x y a b hg, he]
theorem sz50 : (Yba.prog.info? 50).map (·.size) = some 214 := by kernel_rfl
theorem sz54 : (Yba.prog.info? 54).map (·.size) = some 14 := by kernel_rfl
theorem sz30 : (Yba.prog.info? 30).map (·.size) = some 12 := by kernel_rfl
theorem gt50 : Yba.prog.eqGuardType Yba.prog.depth 50 = false := by kernel_rfl
theorem gt54 : Yba.prog.eqGuardType Yba.prog.depth 54 = false := by kernel_rfl
theorem gt30 : Yba.prog.eqGuardType Yba.prog.depth 30 = false := by kernel_rfl

set_option maxRecDepth 1000000 in
set_option maxHeartbeats 8000000 in
theorem reg55 (bI bC bP bV bF bPB bVB bCu bAr bB bWo bWi s : Nat) (hs : s < 2) (mf : Option Addr) (lm : Bool) (m0 m1 dc age cu ac mo : Int) (c50 c54 c30 : Array Value) (W : World)
    (b0 : W.cell? ⟨bB, 0, none⟩ = some (.bool lm)) (b1 : W.cell? ⟨bB, 1, none⟩ = some (.int .i64 0)) (b2 : W.cell? ⟨bB, 2, none⟩ = some (.int .u64 m0)) (b3 : W.cell? ⟨bB, 3, none⟩ = some (.int .i64 0)) (b4 : W.cell? ⟨bB, 4, none⟩ = some (.int .i64 0)) (b5 : W.cell? ⟨bB, 5, none⟩ = some (.int .u64 m1)) (b6 : W.cell? ⟨bB, 6, none⟩ = some (.int .i64 0)) (b7 : W.cell? ⟨bB, 7, none⟩ = some (.int .i64 dc)) (b8 : W.cell? ⟨bB, 8, none⟩ = some (.int .i64 age)) (b9 : W.cell? ⟨bB, 9, none⟩ = some (.int .i64 0)) (b10 : W.cell? ⟨bB, 10, none⟩ = some (.int .u64 cu)) (b11 : W.cell? ⟨bB, 11, none⟩ = some (.int .i64 0)) (b12 : W.cell? ⟨bB, 12, none⟩ = some (.pointer mf)) (b13 : W.cell? ⟨bB, 13, none⟩ = some (.int .i64 mo)) (b14 : W.cell? ⟨bB, 14, none⟩ = some (.int .i64 0)) (b15 : W.cell? ⟨bB, 15, none⟩ = some (.int .u64 ac)) (b16 : W.cell? ⟨bB, 16, none⟩ = some (.int .i64 0)) (wo0 : W.cell? ⟨bWo, 0, none⟩ = some (.int .i64 0)) (wo1 : W.cell? ⟨bWo, 1, none⟩ = some (.int .u64 m0)) (wo2 : W.cell? ⟨bWo, 2, none⟩ = some (.int .i64 0)) (wi0 : W.cell? ⟨bWi, 0, none⟩ = some (.int .i64 0)) (wi1 : W.cell? ⟨bWi, 1, none⟩ = some (.int .u64 m1)) (wi2 : W.cell? ⟨bWi, 2, none⟩ = some (.int .i64 0)) (cc0 : W.cell? ⟨bCu, 0, none⟩ = some (.int .i64 0)) (cc1 : W.cell? ⟨bCu, 1, none⟩ = some (.int .u64 cu)) (cc2 : W.cell? ⟨bCu, 2, none⟩ = some (.int .i64 0)) (aa0 : W.cell? ⟨bAr, 0, none⟩ = some (.int .i64 0)) (aa1 : W.cell? ⟨bAr, 1, none⟩ = some (.int .u64 ac)) (aa2 : W.cell? ⟨bAr, 2, none⟩ = some (.int .i64 0)) (fd : W.cell? ⟨bF, 212 + s, none⟩ = some (.int .i64 dc)) (fa : W.cell? ⟨bI, 17, none⟩ = some (.int .i64 age)) (hC : W.heap[bC]? = some (.cells c50 50 (0, 0))) (hF : W.heap[bF]? = some (.cells c50 50 (0, 0))) (hP : W.heap[bP]? = some (.cells c54 54 (0, 0))) (hPB : W.heap[bPB]? = some (.cells c54 54 (0, 0))) (hV : W.heap[bV]? = some (.cells c30 30 (0, 0))) (hVB : W.heap[bVB]? = some (.cells c30 30 (0, 0))) (z50 : c50.size = 214) (z54 : c54.size = 14) (z30 : c30.size = 12) (q50 : ∀ w : World, (binOp .eql 50 (.agg c50) (.agg c50)).run Yba.prog w = .ok (.bool true) w) (q54 : ∀ w : World, (binOp .eql 54 (.agg c54) (.agg c54)).run Yba.prog w = .ok (.bool true) w) (q30 : ∀ w : World, (binOp .eql 30 (.agg c30) (.agg c30)).run Yba.prog w = .ok (.bool true) w)
    (q52 : ∀ w : World, (binOp .eql 52 (.pointer mf) (.pointer mf)).run Yba.prog w = .ok (.bool true) w)
    (u0 u2 u4 u5 u7 u8 u9 u12 u17 u22 u24 u27 u28 u29 u30 u31 u32 u33 u34 u35 u36 u37 u38 u39 u40 u41 u42 u43 u44 u45 u46 u47 u48 u49 u50 u51 u52 u53 u54 u55 u56 u57 u58 u59 u60 u61 u62 u63 u64 u65 u66 u67 u68 u69 u70 u71 u72 u73 u74 u75 u76 u77 u78 u79 u80 u81 u82 u83 u84 u85 u86 u87 u88 u89 u90 u91 u92 u93 u94 u95 u96 u97 u98 u99 u100 u101 u102 u103 u104 u105 u106 u107 u108 u109 u110 u111 u112 u113 u114 u115 u116 u117 u118 u119 u120 u121 u122 u123 u124 u125 u126 u127 u128 u129 u130 u131 u132 u133 u134 u135 u136 u137 u138 u139 u140 u141 u142 u143 u144 u145 u146 u147 u148 u149 u150 u151 u152 u153 u154 u155 u156 u157 u158 u159 u160 u161 u162 u163 u164 u165 u166 u167 u168 u169 u170 u171 u172 u173 u174 u175 u176 u177 u178 u179 u180 u181 u182 u183 u184 u185 u186 u187 u188 u189 u190 u191 u192 u193 u194 u195 u196 u197 u198 u199 u200 u201 u202 u203 u204 u205 u206 u207 u208 u209 u210 u211 u212 u213 u214 u215 u216 u217 u218 u219 u220 u221 u222 u223 u224 u225 u226 u227 u228 u229 u230 u231 u232 u233 u234 u235 u236 u237 u238 u239 u240 u241 u242 u243 u244 u245 u246 u247 u248 u249 u250 u251 u252 u253 u254 u255 u256 u257 u258 u259 u260 u261 u262 u263 u264 u265 u266 u267 u268 u269 u270 u271 u272 u273 u274 u275 u276 u277 u278 u279 u280 u281 u282 u283 u284 : Value) (K : Act → World → Prop) (hQ : ∀ (x214 x215 x216 x217 x218 x219 x220 x221 x222 x223 x224 x225 x226 x227 x228 x229 x230 x231 x232 x233 x234 x235 x236 x237 x238 x239 x240 x241 x242 x243 x244 x245 x246 x247 x248 x249 x250 x251 x252 x253 x254 x255 x256 x257 x258 x259 x260 x261 x262 x263 x264 x265 x266 x267 x268 x269 x270 x271 x272 x273 x274 x275 x276 x277 x278 x279 x280 x281 x282 x283 x284 : Value) (n : Nat), K ⟨(u0 :: .pointer (some ⟨bI, 0, none⟩) :: .bool true :: .int .i64 s :: u4 :: u5 :: .pointer (some ⟨bC, 0, none⟩) :: u7 :: u8 :: u9 :: .pointer (some ⟨bP, 0, none⟩) :: .pointer (some ⟨bV, 0, none⟩) :: u12 :: .pointer mf :: .pointer (some ⟨bF, 0, none⟩) :: .pointer (some ⟨bPB, 0, none⟩) :: .pointer (some ⟨bVB, 0, none⟩) :: u17 :: .bool lm :: .pointer (some ⟨bCu, 0, none⟩) :: .pointer (some ⟨bAr, 0, none⟩) :: .pointer (some ⟨bB, 0, none⟩) :: u22 :: .pointer (some ⟨bWo, 0, none⟩) :: u24 :: .pointer (some ⟨bWi, 0, none⟩) :: .int .i64 mo :: u27 :: u28 :: u29 :: u30 :: u31 :: u32 :: u33 :: u34 :: u35 :: u36 :: u37 :: u38 :: u39 :: u40 :: u41 :: u42 :: u43 :: u44 :: u45 :: u46 :: u47 :: u48 :: u49 :: u50 :: u51 :: u52 :: u53 :: u54 :: u55 :: u56 :: u57 :: u58 :: u59 :: u60 :: u61 :: u62 :: u63 :: u64 :: u65 :: u66 :: u67 :: u68 :: u69 :: u70 :: u71 :: u72 :: u73 :: u74 :: u75 :: u76 :: u77 :: u78 :: u79 :: u80 :: u81 :: u82 :: u83 :: u84 :: u85 :: u86 :: u87 :: u88 :: u89 :: u90 :: u91 :: u92 :: u93 :: u94 :: u95 :: u96 :: u97 :: u98 :: u99 :: u100 :: u101 :: u102 :: u103 :: u104 :: u105 :: u106 :: u107 :: u108 :: u109 :: u110 :: u111 :: u112 :: u113 :: u114 :: u115 :: u116 :: u117 :: u118 :: u119 :: u120 :: u121 :: u122 :: u123 :: u124 :: u125 :: u126 :: u127 :: u128 :: u129 :: u130 :: u131 :: u132 :: u133 :: u134 :: u135 :: u136 :: u137 :: u138 :: u139 :: u140 :: u141 :: u142 :: u143 :: u144 :: u145 :: u146 :: u147 :: u148 :: u149 :: u150 :: u151 :: u152 :: u153 :: u154 :: u155 :: u156 :: u157 :: u158 :: u159 :: u160 :: u161 :: u162 :: u163 :: u164 :: u165 :: u166 :: u167 :: u168 :: u169 :: u170 :: u171 :: u172 :: u173 :: u174 :: u175 :: u176 :: u177 :: u178 :: u179 :: u180 :: u181 :: u182 :: u183 :: u184 :: u185 :: u186 :: u187 :: u188 :: u189 :: u190 :: u191 :: u192 :: u193 :: u194 :: u195 :: u196 :: u197 :: u198 :: u199 :: u200 :: u201 :: u202 :: u203 :: u204 :: u205 :: u206 :: u207 :: u208 :: u209 :: u210 :: u211 :: u212 :: u213 :: x214 :: x215 :: x216 :: x217 :: x218 :: x219 :: x220 :: x221 :: x222 :: x223 :: x224 :: x225 :: x226 :: x227 :: x228 :: x229 :: x230 :: x231 :: x232 :: x233 :: x234 :: x235 :: x236 :: x237 :: x238 :: x239 :: x240 :: x241 :: x242 :: x243 :: x244 :: x245 :: x246 :: x247 :: x248 :: x249 :: x250 :: x251 :: x252 :: x253 :: x254 :: x255 :: x256 :: x257 :: x258 :: x259 :: x260 :: x261 :: x262 :: x263 :: x264 :: x265 :: x266 :: x267 :: x268 :: x269 :: x270 :: x271 :: x272 :: x273 :: x274 :: x275 :: x276 :: x277 :: x278 :: x279 :: x280 :: x281 :: x282 :: x283 :: x284 :: []).toArray, []⟩ (W.drewN n)) :
    Code.wp Yba.prog ((Yba.f3.body.bind (findReg 55)).getD .skip) (qn K) ⟨(u0 :: .pointer (some ⟨bI, 0, none⟩) :: u2 :: .int .i64 s :: u4 :: u5 :: .pointer (some ⟨bC, 0, none⟩) :: u7 :: u8 :: u9 :: .pointer (some ⟨bP, 0, none⟩) :: .pointer (some ⟨bV, 0, none⟩) :: u12 :: .pointer mf :: .pointer (some ⟨bF, 0, none⟩) :: .pointer (some ⟨bPB, 0, none⟩) :: .pointer (some ⟨bVB, 0, none⟩) :: u17 :: .bool lm :: .pointer (some ⟨bCu, 0, none⟩) :: .pointer (some ⟨bAr, 0, none⟩) :: .pointer (some ⟨bB, 0, none⟩) :: u22 :: .pointer (some ⟨bWo, 0, none⟩) :: u24 :: .pointer (some ⟨bWi, 0, none⟩) :: .int .i64 mo :: u27 :: u28 :: u29 :: u30 :: u31 :: u32 :: u33 :: u34 :: u35 :: u36 :: u37 :: u38 :: u39 :: u40 :: u41 :: u42 :: u43 :: u44 :: u45 :: u46 :: u47 :: u48 :: u49 :: u50 :: u51 :: u52 :: u53 :: u54 :: u55 :: u56 :: u57 :: u58 :: u59 :: u60 :: u61 :: u62 :: u63 :: u64 :: u65 :: u66 :: u67 :: u68 :: u69 :: u70 :: u71 :: u72 :: u73 :: u74 :: u75 :: u76 :: u77 :: u78 :: u79 :: u80 :: u81 :: u82 :: u83 :: u84 :: u85 :: u86 :: u87 :: u88 :: u89 :: u90 :: u91 :: u92 :: u93 :: u94 :: u95 :: u96 :: u97 :: u98 :: u99 :: u100 :: u101 :: u102 :: u103 :: u104 :: u105 :: u106 :: u107 :: u108 :: u109 :: u110 :: u111 :: u112 :: u113 :: u114 :: u115 :: u116 :: u117 :: u118 :: u119 :: u120 :: u121 :: u122 :: u123 :: u124 :: u125 :: u126 :: u127 :: u128 :: u129 :: u130 :: u131 :: u132 :: u133 :: u134 :: u135 :: u136 :: u137 :: u138 :: u139 :: u140 :: u141 :: u142 :: u143 :: u144 :: u145 :: u146 :: u147 :: u148 :: u149 :: u150 :: u151 :: u152 :: u153 :: u154 :: u155 :: u156 :: u157 :: u158 :: u159 :: u160 :: u161 :: u162 :: u163 :: u164 :: u165 :: u166 :: u167 :: u168 :: u169 :: u170 :: u171 :: u172 :: u173 :: u174 :: u175 :: u176 :: u177 :: u178 :: u179 :: u180 :: u181 :: u182 :: u183 :: u184 :: u185 :: u186 :: u187 :: u188 :: u189 :: u190 :: u191 :: u192 :: u193 :: u194 :: u195 :: u196 :: u197 :: u198 :: u199 :: u200 :: u201 :: u202 :: u203 :: u204 :: u205 :: u206 :: u207 :: u208 :: u209 :: u210 :: u211 :: u212 :: u213 :: u214 :: u215 :: u216 :: u217 :: u218 :: u219 :: u220 :: u221 :: u222 :: u223 :: u224 :: u225 :: u226 :: u227 :: u228 :: u229 :: u230 :: u231 :: u232 :: u233 :: u234 :: u235 :: u236 :: u237 :: u238 :: u239 :: u240 :: u241 :: u242 :: u243 :: u244 :: u245 :: u246 :: u247 :: u248 :: u249 :: u250 :: u251 :: u252 :: u253 :: u254 :: u255 :: u256 :: u257 :: u258 :: u259 :: u260 :: u261 :: u262 :: u263 :: u264 :: u265 :: u266 :: u267 :: u268 :: u269 :: u270 :: u271 :: u272 :: u273 :: u274 :: u275 :: u276 :: u277 :: u278 :: u279 :: u280 :: u281 :: u282 :: u283 :: u284 :: []).toArray, []⟩ W := by
  have HQ : Hid (∀ (x214 x215 x216 x217 x218 x219 x220 x221 x222 x223 x224 x225 x226 x227 x228 x229 x230 x231 x232 x233 x234 x235 x236 x237 x238 x239 x240 x241 x242 x243 x244 x245 x246 x247 x248 x249 x250 x251 x252 x253 x254 x255 x256 x257 x258 x259 x260 x261 x262 x263 x264 x265 x266 x267 x268 x269 x270 x271 x272 x273 x274 x275 x276 x277 x278 x279 x280 x281 x282 x283 x284 : Value) (n : Nat), K ⟨(u0 :: .pointer (some ⟨bI, 0, none⟩) :: .bool true :: .int .i64 s :: u4 :: u5 :: .pointer (some ⟨bC, 0, none⟩) :: u7 :: u8 :: u9 :: .pointer (some ⟨bP, 0, none⟩) :: .pointer (some ⟨bV, 0, none⟩) :: u12 :: .pointer mf :: .pointer (some ⟨bF, 0, none⟩) :: .pointer (some ⟨bPB, 0, none⟩) :: .pointer (some ⟨bVB, 0, none⟩) :: u17 :: .bool lm :: .pointer (some ⟨bCu, 0, none⟩) :: .pointer (some ⟨bAr, 0, none⟩) :: .pointer (some ⟨bB, 0, none⟩) :: u22 :: .pointer (some ⟨bWo, 0, none⟩) :: u24 :: .pointer (some ⟨bWi, 0, none⟩) :: .int .i64 mo :: u27 :: u28 :: u29 :: u30 :: u31 :: u32 :: u33 :: u34 :: u35 :: u36 :: u37 :: u38 :: u39 :: u40 :: u41 :: u42 :: u43 :: u44 :: u45 :: u46 :: u47 :: u48 :: u49 :: u50 :: u51 :: u52 :: u53 :: u54 :: u55 :: u56 :: u57 :: u58 :: u59 :: u60 :: u61 :: u62 :: u63 :: u64 :: u65 :: u66 :: u67 :: u68 :: u69 :: u70 :: u71 :: u72 :: u73 :: u74 :: u75 :: u76 :: u77 :: u78 :: u79 :: u80 :: u81 :: u82 :: u83 :: u84 :: u85 :: u86 :: u87 :: u88 :: u89 :: u90 :: u91 :: u92 :: u93 :: u94 :: u95 :: u96 :: u97 :: u98 :: u99 :: u100 :: u101 :: u102 :: u103 :: u104 :: u105 :: u106 :: u107 :: u108 :: u109 :: u110 :: u111 :: u112 :: u113 :: u114 :: u115 :: u116 :: u117 :: u118 :: u119 :: u120 :: u121 :: u122 :: u123 :: u124 :: u125 :: u126 :: u127 :: u128 :: u129 :: u130 :: u131 :: u132 :: u133 :: u134 :: u135 :: u136 :: u137 :: u138 :: u139 :: u140 :: u141 :: u142 :: u143 :: u144 :: u145 :: u146 :: u147 :: u148 :: u149 :: u150 :: u151 :: u152 :: u153 :: u154 :: u155 :: u156 :: u157 :: u158 :: u159 :: u160 :: u161 :: u162 :: u163 :: u164 :: u165 :: u166 :: u167 :: u168 :: u169 :: u170 :: u171 :: u172 :: u173 :: u174 :: u175 :: u176 :: u177 :: u178 :: u179 :: u180 :: u181 :: u182 :: u183 :: u184 :: u185 :: u186 :: u187 :: u188 :: u189 :: u190 :: u191 :: u192 :: u193 :: u194 :: u195 :: u196 :: u197 :: u198 :: u199 :: u200 :: u201 :: u202 :: u203 :: u204 :: u205 :: u206 :: u207 :: u208 :: u209 :: u210 :: u211 :: u212 :: u213 :: x214 :: x215 :: x216 :: x217 :: x218 :: x219 :: x220 :: x221 :: x222 :: x223 :: x224 :: x225 :: x226 :: x227 :: x228 :: x229 :: x230 :: x231 :: x232 :: x233 :: x234 :: x235 :: x236 :: x237 :: x238 :: x239 :: x240 :: x241 :: x242 :: x243 :: x244 :: x245 :: x246 :: x247 :: x248 :: x249 :: x250 :: x251 :: x252 :: x253 :: x254 :: x255 :: x256 :: x257 :: x258 :: x259 :: x260 :: x261 :: x262 :: x263 :: x264 :: x265 :: x266 :: x267 :: x268 :: x269 :: x270 :: x271 :: x272 :: x273 :: x274 :: x275 :: x276 :: x277 :: x278 :: x279 :: x280 :: x281 :: x282 :: x283 :: x284 :: []).toArray, []⟩ (W.drewN n)) := hQ
  have HQ := HQ.out
  clear hQ
  have hs0 : (0 : Int) ≤ s := by omega
  have hs1 : (s : Int) < 2 := by omega
  conv => arg 2; whnf
  simp only [List.append_eq, List.cons_append, List.nil_append]
  refine wp_region_quiet_lit (by kernel_rfl) (by kernel_rfl) ?_
  go_big_quiet_step (fail)
  go_big_quiet_step (fail)
  go_big_quiet_step (fail)
  go_big_quiet_step (fail)
  go_big_quiet_step (fail)
  go_big_quiet_step (fail)
  go_big_quiet_step (fail)
  go_big_quiet_step (fail)
  go_big_quiet_step (fail)
  go_big_quiet_step (fail)
  go_big_quiet_step (fail)
  go_big_quiet_step (fail)
  go_big_quiet_step (fail)
  go_big_quiet_step (fail)
  go_big_quiet_step (fail)
  go_big_quiet_step (fail)
  go_big_quiet_step (fail)
  go_big_quiet_step (fail)
  go_big_quiet_step (fail)
  go_big_quiet_step (fail)
  go_big_quiet_step (fail)
  go_big_quiet_step (fail)
  go_big_quiet_step (fail)
  go_big_quiet_step (fail)
  go_big_quiet_step (fail)
  go_big_quiet_step (fail)
  go_big_quiet_step (fail)
  go_big_quiet_step (fail)
  go_big_quiet_step (fail)
  go_big_quiet_step (fail)
  go_big_quiet_step (fail)
  go_big_quiet_step (fail)
  go_big_quiet_step (fail)
  go_big_quiet_step (fail)
  go_big_quiet_step (fail)
  go_big_quiet_step (fail)
  go_big_quiet_step (fail)
  go_big_quiet_step (fail)
  go_big_quiet_step (fail)
  go_big_quiet_step (fail)
  go_big_quiet_step (fail)
  go_big_quiet_step (fail)
  go_big_quiet_step (fail)
  go_big_quiet_step (fail)
  go_big_quiet_step (fail)
  go_big_quiet_step (fail)
  go_big_quiet_step (fail)
  go_big_quiet_step (fail)
  go_big_quiet_step (fail)
  go_big_quiet_step (fail)
  go_big_quiet_step (fail)
  go_big_quiet_step (fail)
  go_big_quiet_step (fail)
  go_big_quiet_step (fail)
  go_big_quiet_step (fail)
  go_big_quiet_step (fail)
  go_big_quiet_step (fail)
  refine quiet_val (v := .agg c50) rfl (fun w hw => ?_) ?_
  · obtain ⟨n, rfl⟩ := hw
    exact exec_load rfl rfl (run_loadVar_row _ _ 50 50 c50 (0, 0) _ (by exact hC) Yba.underlying50 rfl (by rw [z50]; exact sz50))
  walk_nrm
  refine quiet_val (v := .agg c50) rfl (fun w hw => ?_) ?_
  · obtain ⟨n, rfl⟩ := hw
    exact exec_load rfl rfl (run_loadVar_row _ _ 50 50 c50 (0, 0) _ (by exact hF) Yba.underlying50 rfl (by rw [z50]; exact sz50))
  walk_nrm
  refine quiet_val (v := .bool true) rfl (fun w hw => ?_) ?_
  · exact exec_eq rfl rfl rfl gt50 (q50 w)
  walk_nrm
  go_big_quiet_step (fail)
  go_big_quiet_step (fail)
  refine quiet_val (v := .agg c54) rfl (fun w hw => ?_) ?_
  · obtain ⟨n, rfl⟩ := hw
    exact exec_load rfl rfl (run_loadVar_row _ _ 54 54 c54 (0, 0) _ (by exact hP) Yba.underlying54 rfl (by rw [z54]; exact sz54))
  walk_nrm
  refine quiet_val (v := .agg c54) rfl (fun w hw => ?_) ?_
  · obtain ⟨n, rfl⟩ := hw
    exact exec_load rfl rfl (run_loadVar_row _ _ 54 54 c54 (0, 0) _ (by exact hPB) Yba.underlying54 rfl (by rw [z54]; exact sz54))
  walk_nrm
  refine quiet_val (v := .bool true) rfl (fun w hw => ?_) ?_
  · exact exec_eq rfl rfl rfl gt54 (q54 w)
  walk_nrm
  go_big_quiet_step (fail)
  go_big_quiet_step (fail)
  refine quiet_val (v := .agg c30) rfl (fun w hw => ?_) ?_
  · obtain ⟨n, rfl⟩ := hw
    exact exec_load rfl rfl (run_loadVar_row _ _ 30 30 c30 (0, 0) _ (by exact hV) Yba.underlying30 rfl (by rw [z30]; exact sz30))
  walk_nrm
  refine quiet_val (v := .agg c30) rfl (fun w hw => ?_) ?_
  · obtain ⟨n, rfl⟩ := hw
    exact exec_load rfl rfl (run_loadVar_row _ _ 30 30 c30 (0, 0) _ (by exact hVB) Yba.underlying30 rfl (by rw [z30]; exact sz30))
  walk_nrm
  refine quiet_val (v := .bool true) rfl (fun w hw => ?_) ?_
  · exact exec_eq rfl rfl rfl gt30 (q30 w)
  walk_nrm
  go_big_quiet_step (fail)
  go_big_quiet_step (fail)
  refine wpQuiet_nil ?_
  intro _ hw'
  obtain ⟨nq, rfl⟩ := hw'
  exact HQ _ _ _ _ _ _ _ _ _ _ _ _ _ _ _ _ _ _ _ _ _ _ _ _ _ _ _ _ _ _ _ _ _ _ _ _ _ _ _ _ _ _ _ _ _ _ _ _ _ _ _ _ _ _ _ _ _ _ _ _ _ _ _ _ _ _ _ _ _ _ _ nq
end Go.Proofs.Ybulkuvq
