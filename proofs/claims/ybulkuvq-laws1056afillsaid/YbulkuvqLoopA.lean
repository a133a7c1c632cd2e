import Derived.Test.YbulkuvqRegD
namespace Go.Proofs.Ybulkuvq
open Go Go.RowKit
set_option linter.unusedVariables false

def firstLoop : Code → Option Code
  | .loop c => some c
  | .seq a b => match firstLoop a with
    | some c => some c
    | none => firstLoop b
  | .block _ c => firstLoop c
  | .scope c => firstLoop c
  | .cond _ a b => match firstLoop a with
    | some c => some c
    | none => firstLoop b
  | _ => none

set_option maxRecDepth 1000000 in
set_option maxHeartbeats 8000000 in
theorem loop1 (bI bC : Nat) (hal : Nat → Int) (opn : Nat → Bool) (dec : Nat → Int) (hb : ∀ k, 0 ≤ hal k ∧ hal k ≤ 4294967295) (hd : ∀ k, 0 ≤ dec k ∧ dec k ≤ 255) (yz : Array Value) (hyz : yz.size = 184)
    (W : World) (nIC : bI ≠ bC) (lI : bI < W.heap.size)
    (ih0 : W.cell? ⟨bI, 3, none⟩ = some (.int .u32 (hal 0))) (ih1 : W.cell? ⟨bI, 4, none⟩ = some (.int .u32 (hal 1))) (ih2 : W.cell? ⟨bI, 5, none⟩ = some (.int .u32 (hal 2))) (ih3 : W.cell? ⟨bI, 6, none⟩ = some (.int .u32 (hal 3))) (ih4 : W.cell? ⟨bI, 7, none⟩ = some (.int .u32 (hal 4))) (ih5 : W.cell? ⟨bI, 8, none⟩ = some (.int .u32 (hal 5))) (ih6 : W.cell? ⟨bI, 9, none⟩ = some (.int .u32 (hal 6))) (ih7 : W.cell? ⟨bI, 10, none⟩ = some (.int .u32 (hal 7))) (io0 : W.cell? ⟨bI, 11, none⟩ = some (.bool (opn 0))) (io1 : W.cell? ⟨bI, 12, none⟩ = some (.bool (opn 1))) (io2 : W.cell? ⟨bI, 13, none⟩ = some (.bool (opn 2))) (io3 : W.cell? ⟨bI, 14, none⟩ = some (.bool (opn 3))) (id0 : W.cell? ⟨bI, 15, none⟩ = some (.int .u8 (dec 0))) (id1 : W.cell? ⟨bI, 16, none⟩ = some (.int .u8 (dec 1)))
    (hC : W.heap[bC]? = some (.cells (yz ++ #[.int .i64 0, .int .u64 0, .int .i64 0, .int .i64 0, .int .u64 0, .int .i64 0, .int .i64 0, .int .u64 0, .int .i64 0, .int .i64 0, .int .u64 0, .int .i64 0, .int .i64 0, .int .u64 0, .int .i64 0, .int .i64 0, .int .u64 0, .int .i64 0, .int .i64 0, .int .u64 0, .int .i64 0, .int .i64 0, .int .u64 0, .int .i64 0, .bool false, .bool false, .bool false, .bool false, .int .i64 0, .int .i64 0]) 50 (0, 0))) (u0 u2 u3 u4 u5 u8 u9 u10 u11 u12 u13 u14 u15 u16 u17 u18 u19 u20 u21 u22 u23 u24 u25 u26 u27 u28 u29 u30 u31 u32 u33 u34 u35 u36 u37 u38 u39 u40 u41 u42 u43 u44 u45 u46 u47 u48 u49 u50 u51 u52 u53 u54 u55 u56 u57 u58 u59 u60 u61 u62 u63 u64 u65 u66 u67 u68 u69 u70 u71 u72 u73 u74 u75 u76 u77 u78 u79 u80 u81 u82 u83 u84 u85 u86 u87 u88 u89 u90 u91 u92 u93 u94 u95 u96 u97 u98 u99 u100 u101 u102 u103 u104 u105 u106 u107 u108 u109 u110 u111 u112 u113 u114 u115 u116 u117 u118 u119 u120 u121 u122 u123 u124 u125 u126 u127 u128 u129 u130 u131 u132 u133 u134 u135 u136 u137 u138 u139 u140 u141 u142 u143 u144 u145 u146 u147 u148 u149 u150 u151 u152 u153 u154 u155 u156 u157 u158 u159 u160 u161 u162 u163 u164 u165 u166 u167 u168 u169 u170 u171 u172 u173 u174 u175 u176 u177 u178 u179 u180 u181 u182 u183 u184 u185 u186 u187 u188 u189 u190 u191 u192 u193 u194 u195 u196 u197 u198 u199 u200 u201 u202 u203 u204 u205 u206 u207 u208 u209 u210 u211 u212 u213 u214 u215 u216 u217 u218 u219 u220 u221 u222 u223 u224 u225 u226 u227 u228 u229 u230 u231 u232 u233 u234 u235 u236 u237 u238 u239 u240 u241 u242 u243 u244 u245 u246 u247 u248 u249 u250 u251 u252 u253 u254 u255 u256 u257 u258 u259 u260 u261 u262 u263 u264 u265 u266 u267 u268 u269 u270 u271 u272 u273 u274 u275 u276 u277 u278 u279 u280 u281 u282 u283 u284 : Value) (Q0 : Exit → Act → World → Prop)
    (hexit : ∀ (x7 x8 x9 x40 x41 x42 x43 x44 x45 x46 x47 x48 x49 x50 x51 x52 x53 x54 x55 x56 x57 x58 x59 x60 x61 x62 x63 x64 x65 x66 x67 x68 x69 x70 x71 x72 x73 x74 x75 x76 x77 x78 x79 x80 x81 x82 x83 x84 x85 x86 x87 x88 x89 x90 : Value) (W' : World), Bb bC 50 W W' (yz ++ #[.int .i64 0, .int .u64 (hal 0), .int .i64 0, .int .i64 0, .int .u64 (hal 1), .int .i64 0, .int .i64 0, .int .u64 (hal 2), .int .i64 0, .int .i64 0, .int .u64 (hal 3), .int .i64 0, .int .i64 0, .int .u64 (hal 4), .int .i64 0, .int .i64 0, .int .u64 (hal 5), .int .i64 0, .int .i64 0, .int .u64 (hal 6), .int .i64 0, .int .i64 0, .int .u64 (hal 7), .int .i64 0, .bool (opn 0), .bool (opn 1), .bool (opn 2), .bool (opn 3), .int .i64 (dec 0 % 3), .int .i64 (dec 1 % 3)]) → Q0 (.exit 0) ⟨(u0 :: .pointer (some ⟨bI, 0, none⟩) :: u2 :: u3 :: u4 :: u5 :: .pointer (some ⟨bC, 0, none⟩) :: x7 :: x8 :: x9 :: u10 :: u11 :: u12 :: u13 :: u14 :: u15 :: u16 :: u17 :: u18 :: u19 :: u20 :: u21 :: u22 :: u23 :: u24 :: u25 :: u26 :: u27 :: u28 :: u29 :: u30 :: u31 :: u32 :: u33 :: u34 :: u35 :: u36 :: u37 :: u38 :: u39 :: x40 :: x41 :: x42 :: x43 :: x44 :: x45 :: x46 :: x47 :: x48 :: x49 :: x50 :: x51 :: x52 :: x53 :: x54 :: x55 :: x56 :: x57 :: x58 :: x59 :: x60 :: x61 :: x62 :: x63 :: x64 :: x65 :: x66 :: x67 :: x68 :: x69 :: x70 :: x71 :: x72 :: x73 :: x74 :: x75 :: x76 :: x77 :: x78 :: x79 :: x80 :: x81 :: x82 :: x83 :: x84 :: x85 :: x86 :: x87 :: x88 :: x89 :: x90 :: u91 :: u92 :: u93 :: u94 :: u95 :: u96 :: u97 :: u98 :: u99 :: u100 :: u101 :: u102 :: u103 :: u104 :: u105 :: u106 :: u107 :: u108 :: u109 :: u110 :: u111 :: u112 :: u113 :: u114 :: u115 :: u116 :: u117 :: u118 :: u119 :: u120 :: u121 :: u122 :: u123 :: u124 :: u125 :: u126 :: u127 :: u128 :: u129 :: u130 :: u131 :: u132 :: u133 :: u134 :: u135 :: u136 :: u137 :: u138 :: u139 :: u140 :: u141 :: u142 :: u143 :: u144 :: u145 :: u146 :: u147 :: u148 :: u149 :: u150 :: u151 :: u152 :: u153 :: u154 :: u155 :: u156 :: u157 :: u158 :: u159 :: u160 :: u161 :: u162 :: u163 :: u164 :: u165 :: u166 :: u167 :: u168 :: u169 :: u170 :: u171 :: u172 :: u173 :: u174 :: u175 :: u176 :: u177 :: u178 :: u179 :: u180 :: u181 :: u182 :: u183 :: u184 :: u185 :: u186 :: u187 :: u188 :: u189 :: u190 :: u191 :: u192 :: u193 :: u194 :: u195 :: u196 :: u197 :: u198 :: u199 :: u200 :: u201 :: u202 :: u203 :: u204 :: u205 :: u206 :: u207 :: u208 :: u209 :: u210 :: u211 :: u212 :: u213 :: u214 :: u215 :: u216 :: u217 :: u218 :: u219 :: u220 :: u221 :: u222 :: u223 :: u224 :: u225 :: u226 :: u227 :: u228 :: u229 :: u230 :: u231 :: u232 :: u233 :: u234 :: u235 :: u236 :: u237 :: u238 :: u239 :: u240 :: u241 :: u242 :: u243 :: u244 :: u245 :: u246 :: u247 :: u248 :: u249 :: u250 :: u251 :: u252 :: u253 :: u254 :: u255 :: u256 :: u257 :: u258 :: u259 :: u260 :: u261 :: u262 :: u263 :: u264 :: u265 :: u266 :: u267 :: u268 :: u269 :: u270 :: u271 :: u272 :: u273 :: u274 :: u275 :: u276 :: u277 :: u278 :: u279 :: u280 :: u281 :: u282 :: u283 :: u284 :: []).toArray, []⟩ W') :
    Code.wp Yba.prog (Code.loop ((Yba.f3.body.bind firstLoop).getD .skip)) Q0 ⟨(u0 :: .pointer (some ⟨bI, 0, none⟩) :: u2 :: u3 :: u4 :: u5 :: .pointer (some ⟨bC, 0, none⟩) :: .int .i64 0 :: u8 :: u9 :: u10 :: u11 :: u12 :: u13 :: u14 :: u15 :: u16 :: u17 :: u18 :: u19 :: u20 :: u21 :: u22 :: u23 :: u24 :: u25 :: u26 :: u27 :: u28 :: u29 :: u30 :: u31 :: u32 :: u33 :: u34 :: u35 :: u36 :: u37 :: u38 :: u39 :: u40 :: u41 :: u42 :: u43 :: u44 :: u45 :: u46 :: u47 :: u48 :: u49 :: u50 :: u51 :: u52 :: u53 :: u54 :: u55 :: u56 :: u57 :: u58 :: u59 :: u60 :: u61 :: u62 :: u63 :: u64 :: u65 :: u66 :: u67 :: u68 :: u69 :: u70 :: u71 :: u72 :: u73 :: u74 :: u75 :: u76 :: u77 :: u78 :: u79 :: u80 :: u81 :: u82 :: u83 :: u84 :: u85 :: u86 :: u87 :: u88 :: u89 :: u90 :: u91 :: u92 :: u93 :: u94 :: u95 :: u96 :: u97 :: u98 :: u99 :: u100 :: u101 :: u102 :: u103 :: u104 :: u105 :: u106 :: u107 :: u108 :: u109 :: u110 :: u111 :: u112 :: u113 :: u114 :: u115 :: u116 :: u117 :: u118 :: u119 :: u120 :: u121 :: u122 :: u123 :: u124 :: u125 :: u126 :: u127 :: u128 :: u129 :: u130 :: u131 :: u132 :: u133 :: u134 :: u135 :: u136 :: u137 :: u138 :: u139 :: u140 :: u141 :: u142 :: u143 :: u144 :: u145 :: u146 :: u147 :: u148 :: u149 :: u150 :: u151 :: u152 :: u153 :: u154 :: u155 :: u156 :: u157 :: u158 :: u159 :: u160 :: u161 :: u162 :: u163 :: u164 :: u165 :: u166 :: u167 :: u168 :: u169 :: u170 :: u171 :: u172 :: u173 :: u174 :: u175 :: u176 :: u177 :: u178 :: u179 :: u180 :: u181 :: u182 :: u183 :: u184 :: u185 :: u186 :: u187 :: u188 :: u189 :: u190 :: u191 :: u192 :: u193 :: u194 :: u195 :: u196 :: u197 :: u198 :: u199 :: u200 :: u201 :: u202 :: u203 :: u204 :: u205 :: u206 :: u207 :: u208 :: u209 :: u210 :: u211 :: u212 :: u213 :: u214 :: u215 :: u216 :: u217 :: u218 :: u219 :: u220 :: u221 :: u222 :: u223 :: u224 :: u225 :: u226 :: u227 :: u228 :: u229 :: u230 :: u231 :: u232 :: u233 :: u234 :: u235 :: u236 :: u237 :: u238 :: u239 :: u240 :: u241 :: u242 :: u243 :: u244 :: u245 :: u246 :: u247 :: u248 :: u249 :: u250 :: u251 :: u252 :: u253 :: u254 :: u255 :: u256 :: u257 :: u258 :: u259 :: u260 :: u261 :: u262 :: u263 :: u264 :: u265 :: u266 :: u267 :: u268 :: u269 :: u270 :: u271 :: u272 :: u273 :: u274 :: u275 :: u276 :: u277 :: u278 :: u279 :: u280 :: u281 :: u282 :: u283 :: u284 :: []).toArray, []⟩ W := by
  have HX : Hid (∀ (x7 x8 x9 x40 x41 x42 x43 x44 x45 x46 x47 x48 x49 x50 x51 x52 x53 x54 x55 x56 x57 x58 x59 x60 x61 x62 x63 x64 x65 x66 x67 x68 x69 x70 x71 x72 x73 x74 x75 x76 x77 x78 x79 x80 x81 x82 x83 x84 x85 x86 x87 x88 x89 x90 : Value) (W' : World), Bb bC 50 W W' (yz ++ #[.int .i64 0, .int .u64 (hal 0), .int .i64 0, .int .i64 0, .int .u64 (hal 1), .int .i64 0, .int .i64 0, .int .u64 (hal 2), .int .i64 0, .int .i64 0, .int .u64 (hal 3), .int .i64 0, .int .i64 0, .int .u64 (hal 4), .int .i64 0, .int .i64 0, .int .u64 (hal 5), .int .i64 0, .int .i64 0, .int .u64 (hal 6), .int .i64 0, .int .i64 0, .int .u64 (hal 7), .int .i64 0, .bool (opn 0), .bool (opn 1), .bool (opn 2), .bool (opn 3), .int .i64 (dec 0 % 3), .int .i64 (dec 1 % 3)]) → Q0 (.exit 0) ⟨(u0 :: .pointer (some ⟨bI, 0, none⟩) :: u2 :: u3 :: u4 :: u5 :: .pointer (some ⟨bC, 0, none⟩) :: x7 :: x8 :: x9 :: u10 :: u11 :: u12 :: u13 :: u14 :: u15 :: u16 :: u17 :: u18 :: u19 :: u20 :: u21 :: u22 :: u23 :: u24 :: u25 :: u26 :: u27 :: u28 :: u29 :: u30 :: u31 :: u32 :: u33 :: u34 :: u35 :: u36 :: u37 :: u38 :: u39 :: x40 :: x41 :: x42 :: x43 :: x44 :: x45 :: x46 :: x47 :: x48 :: x49 :: x50 :: x51 :: x52 :: x53 :: x54 :: x55 :: x56 :: x57 :: x58 :: x59 :: x60 :: x61 :: x62 :: x63 :: x64 :: x65 :: x66 :: x67 :: x68 :: x69 :: x70 :: x71 :: x72 :: x73 :: x74 :: x75 :: x76 :: x77 :: x78 :: x79 :: x80 :: x81 :: x82 :: x83 :: x84 :: x85 :: x86 :: x87 :: x88 :: x89 :: x90 :: u91 :: u92 :: u93 :: u94 :: u95 :: u96 :: u97 :: u98 :: u99 :: u100 :: u101 :: u102 :: u103 :: u104 :: u105 :: u106 :: u107 :: u108 :: u109 :: u110 :: u111 :: u112 :: u113 :: u114 :: u115 :: u116 :: u117 :: u118 :: u119 :: u120 :: u121 :: u122 :: u123 :: u124 :: u125 :: u126 :: u127 :: u128 :: u129 :: u130 :: u131 :: u132 :: u133 :: u134 :: u135 :: u136 :: u137 :: u138 :: u139 :: u140 :: u141 :: u142 :: u143 :: u144 :: u145 :: u146 :: u147 :: u148 :: u149 :: u150 :: u151 :: u152 :: u153 :: u154 :: u155 :: u156 :: u157 :: u158 :: u159 :: u160 :: u161 :: u162 :: u163 :: u164 :: u165 :: u166 :: u167 :: u168 :: u169 :: u170 :: u171 :: u172 :: u173 :: u174 :: u175 :: u176 :: u177 :: u178 :: u179 :: u180 :: u181 :: u182 :: u183 :: u184 :: u185 :: u186 :: u187 :: u188 :: u189 :: u190 :: u191 :: u192 :: u193 :: u194 :: u195 :: u196 :: u197 :: u198 :: u199 :: u200 :: u201 :: u202 :: u203 :: u204 :: u205 :: u206 :: u207 :: u208 :: u209 :: u210 :: u211 :: u212 :: u213 :: u214 :: u215 :: u216 :: u217 :: u218 :: u219 :: u220 :: u221 :: u222 :: u223 :: u224 :: u225 :: u226 :: u227 :: u228 :: u229 :: u230 :: u231 :: u232 :: u233 :: u234 :: u235 :: u236 :: u237 :: u238 :: u239 :: u240 :: u241 :: u242 :: u243 :: u244 :: u245 :: u246 :: u247 :: u248 :: u249 :: u250 :: u251 :: u252 :: u253 :: u254 :: u255 :: u256 :: u257 :: u258 :: u259 :: u260 :: u261 :: u262 :: u263 :: u264 :: u265 :: u266 :: u267 :: u268 :: u269 :: u270 :: u271 :: u272 :: u273 :: u274 :: u275 :: u276 :: u277 :: u278 :: u279 :: u280 :: u281 :: u282 :: u283 :: u284 :: []).toArray, []⟩ W') := hexit
  clear hexit
  conv => arg 2; arg 1; whnf
  refine wp_loop_rounds 3 ?_
  rw [rounds_succ]
  go_wp2_with fail
  refine wp_loop_rounds 3 ?_
  rw [rounds_succ]
  go_wp2_with fail
  refine reg11B bI bC 0 0 (by decide) (by decide) _ _ rfl rfl (opn 0) yz _ hyz rfl W _ nIC lI (Bb.start hC) io0 _ _ _ _ _ _ _ _ _ _ _ _ _ _ _ _ _ _ _ _ _ _ _ _ _ _ _ _ _ _ _ _ _ _ _ _ _ _ _ _ _ _ _ _ _ _ _ _ _ _ _ _ _ _ _ _ _ _ _ _ _ _ _ _ _ _ _ _ _ _ _ _ _ _ _ _ _ _ _ _ _ _ _ _ _ _ _ _ _ _ _ _ _ _ _ _ _ _ _ _ _ _ _ _ _ _ _ _ _ _ _ _ _ _ _ _ _ _ _ _ _ _ _ _ _ _ _ _ _ _ _ _ _ _ _ _ _ _ _ _ _ _ _ _ _ _ _ _ _ _ _ _ _ _ _ _ _ _ _ _ _ _ _ _ _ _ _ _ _ _ _ _ _ _ _ _ _ _ _ _ _ _ _ _ _ _ _ _ _ _ _ _ _ _ _ _ _ _ _ _ _ _ _ _ _ _ _ _ _ _ _ _ _ _ _ _ _ _ _ _ _ _ _ _ _ _ _ _ _ _ _ _ _ _ _ _ _ _ _ _ _ _ _ _ _ _ _ _ _ _ _ _ _ _ _ _ _ _ _ _ _ _ _ _ _ _ _ _ _ _ _ _ _ _ _ _ _ _ _ _ _ _ ?_
  intro x48 x49 x50 x51 x52 x53 x54 x55 x56 x57 x58 x59 W0 g0
  have h0 : Bb bC 50 W W0 (yz ++ #[.int .i64 0, .int .u64 0, .int .i64 0, .int .i64 0, .int .u64 0, .int .i64 0, .int .i64 0, .int .u64 0, .int .i64 0, .int .i64 0, .int .u64 0, .int .i64 0, .int .i64 0, .int .u64 0, .int .i64 0, .int .i64 0, .int .u64 0, .int .i64 0, .int .i64 0, .int .u64 0, .int .i64 0, .int .i64 0, .int .u64 0, .int .i64 0, .bool (opn 0), .bool false, .bool false, .bool false, .int .i64 0, .int .i64 0]) := g0
  clear g0
  go_wp2_with fail
  refine wp_loop_rounds 3 ?_
  rw [rounds_succ]
  go_wp2_with fail
  refine reg15B bI bC 0 0 0 (by decide) (by decide) (by decide) _ _ _ rfl rfl rfl (hal 0) (hb 0).1 (hb 0).2 yz _ hyz rfl W _ nIC lI h0 ih0 _ _ _ _ _ _ _ _ _ _ _ _ _ _ _ _ _ _ _ _ _ _ _ _ _ _ _ _ _ _ _ _ _ _ _ _ _ _ _ _ _ _ _ _ _ _ _ _ _ _ _ _ _ _ _ _ _ _ _ _ _ _ _ _ _ _ _ _ _ _ _ _ _ _ _ _ _ _ _ _ _ _ _ _ _ _ _ _ _ _ _ _ _ _ _ _ _ _ _ _ _ _ _ _ _ _ _ _ _ _ _ _ _ _ _ _ _ _ _ _ _ _ _ _ _ _ _ _ _ _ _ _ _ _ _ _ _ _ _ _ _ _ _ _ _ _ _ _ _ _ _ _ _ _ _ _ _ _ _ _ _ _ _ _ _ _ _ _ _ _ _ _ _ _ _ _ _ _ _ _ _ _ _ _ _ _ _ _ _ _ _ _ _ _ _ _ _ _ _ _ _ _ _ _ _ _ _ _ _ _ _ _ _ _ _ _ _ _ _ _ _ _ _ _ _ _ _ _ _ _ _ _ _ _ _ _ _ _ _ _ _ _ _ _ _ _ _ _ _ _ _ _ _ _ _ _ _ _ _ _ _ _ _ _ _ _ _ _ _ _ _ _ _ _ _ _ _ _ _ _ _ ?_
  intro x64 x65 x66 x67 x68 x69 x70 x71 x72 x73 x74 x75 x76 x77 x78 x79 x80 x81 W1 g1
  have h1 : Bb bC 50 W W1 (yz ++ #[.int .i64 0, .int .u64 (hal 0), .int .i64 0, .int .i64 0, .int .u64 0, .int .i64 0, .int .i64 0, .int .u64 0, .int .i64 0, .int .i64 0, .int .u64 0, .int .i64 0, .int .i64 0, .int .u64 0, .int .i64 0, .int .i64 0, .int .u64 0, .int .i64 0, .int .i64 0, .int .u64 0, .int .i64 0, .int .i64 0, .int .u64 0, .int .i64 0, .bool (opn 0), .bool false, .bool false, .bool false, .int .i64 0, .int .i64 0]) := g1
  clear g1 h0
  go_wp2_with fail
  rw [rounds_succ]
  go_wp2_with fail
  refine reg15B bI bC 0 0 1 (by decide) (by decide) (by decide) _ _ _ rfl rfl rfl (hal 1) (hb 1).1 (hb 1).2 yz _ hyz rfl W _ nIC lI h1 ih1 _ _ _ _ _ _ _ _ _ _ _ _ _ _ _ _ _ _ _ _ _ _ _ _ _ _ _ _ _ _ _ _ _ _ _ _ _ _ _ _ _ _ _ _ _ _ _ _ _ _ _ _ _ _ _ _ _ _ _ _ _ _ _ _ _ _ _ _ _ _ _ _ _ _ _ _ _ _ _ _ _ _ _ _ _ _ _ _ _ _ _ _ _ _ _ _ _ _ _ _ _ _ _ _ _ _ _ _ _ _ _ _ _ _ _ _ _ _ _ _ _ _ _ _ _ _ _ _ _ _ _ _ _ _ _ _ _ _ _ _ _ _ _ _ _ _ _ _ _ _ _ _ _ _ _ _ _ _ _ _ _ _ _ _ _ _ _ _ _ _ _ _ _ _ _ _ _ _ _ _ _ _ _ _ _ _ _ _ _ _ _ _ _ _ _ _ _ _ _ _ _ _ _ _ _ _ _ _ _ _ _ _ _ _ _ _ _ _ _ _ _ _ _ _ _ _ _ _ _ _ _ _ _ _ _ _ _ _ _ _ _ _ _ _ _ _ _ _ _ _ _ _ _ _ _ _ _ _ _ _ _ _ _ _ _ _ _ _ _ _ _ _ _ _ _ _ _ _ _ _ _ ?_
  intro x64 x65 x66 x67 x68 x69 x70 x71 x72 x73 x74 x75 x76 x77 x78 x79 x80 x81 W2 g2
  have h2 : Bb bC 50 W W2 (yz ++ #[.int .i64 0, .int .u64 (hal 0), .int .i64 0, .int .i64 0, .int .u64 (hal 1), .int .i64 0, .int .i64 0, .int .u64 0, .int .i64 0, .int .i64 0, .int .u64 0, .int .i64 0, .int .i64 0, .int .u64 0, .int .i64 0, .int .i64 0, .int .u64 0, .int .i64 0, .int .i64 0, .int .u64 0, .int .i64 0, .int .i64 0, .int .u64 0, .int .i64 0, .bool (opn 0), .bool false, .bool false, .bool false, .int .i64 0, .int .i64 0]) := g2
  clear g2 h1
  go_wp2_with fail
  rw [rounds_succ]
  go_wp2_with fail
  rw [rounds_succ]
  go_wp2_with fail
  refine reg11B bI bC 0 1 (by decide) (by decide) _ _ rfl rfl (opn 1) yz _ hyz rfl W _ nIC lI h2 io1 _ _ _ _ _ _ _ _ _ _ _ _ _ _ _ _ _ _ _ _ _ _ _ _ _ _ _ _ _ _ _ _ _ _ _ _ _ _ _ _ _ _ _ _ _ _ _ _ _ _ _ _ _ _ _ _ _ _ _ _ _ _ _ _ _ _ _ _ _ _ _ _ _ _ _ _ _ _ _ _ _ _ _ _ _ _ _ _ _ _ _ _ _ _ _ _ _ _ _ _ _ _ _ _ _ _ _ _ _ _ _ _ _ _ _ _ _ _ _ _ _ _ _ _ _ _ _ _ _ _ _ _ _ _ _ _ _ _ _ _ _ _ _ _ _ _ _ _ _ _ _ _ _ _ _ _ _ _ _ _ _ _ _ _ _ _ _ _ _ _ _ _ _ _ _ _ _ _ _ _ _ _ _ _ _ _ _ _ _ _ _ _ _ _ _ _ _ _ _ _ _ _ _ _ _ _ _ _ _ _ _ _ _ _ _ _ _ _ _ _ _ _ _ _ _ _ _ _ _ _ _ _ _ _ _ _ _ _ _ _ _ _ _ _ _ _ _ _ _ _ _ _ _ _ _ _ _ _ _ _ _ _ _ _ _ _ _ _ _ _ _ _ _ _ _ _ _ _ _ _ _ _ ?_
  intro x48 x49 x50 x51 x52 x53 x54 x55 x56 x57 x58 x59 W3 g3
  have h3 : Bb bC 50 W W3 (yz ++ #[.int .i64 0, .int .u64 (hal 0), .int .i64 0, .int .i64 0, .int .u64 (hal 1), .int .i64 0, .int .i64 0, .int .u64 0, .int .i64 0, .int .i64 0, .int .u64 0, .int .i64 0, .int .i64 0, .int .u64 0, .int .i64 0, .int .i64 0, .int .u64 0, .int .i64 0, .int .i64 0, .int .u64 0, .int .i64 0, .int .i64 0, .int .u64 0, .int .i64 0, .bool (opn 0), .bool (opn 1), .bool false, .bool false, .int .i64 0, .int .i64 0]) := g3
  clear g3 h2
  go_wp2_with fail
  refine wp_loop_rounds 3 ?_
  rw [rounds_succ]
  go_wp2_with fail
  refine reg15B bI bC 0 1 0 (by decide) (by decide) (by decide) _ _ _ rfl rfl rfl (hal 2) (hb 2).1 (hb 2).2 yz _ hyz rfl W _ nIC lI h3 ih2 _ _ _ _ _ _ _ _ _ _ _ _ _ _ _ _ _ _ _ _ _ _ _ _ _ _ _ _ _ _ _ _ _ _ _ _ _ _ _ _ _ _ _ _ _ _ _ _ _ _ _ _ _ _ _ _ _ _ _ _ _ _ _ _ _ _ _ _ _ _ _ _ _ _ _ _ _ _ _ _ _ _ _ _ _ _ _ _ _ _ _ _ _ _ _ _ _ _ _ _ _ _ _ _ _ _ _ _ _ _ _ _ _ _ _ _ _ _ _ _ _ _ _ _ _ _ _ _ _ _ _ _ _ _ _ _ _ _ _ _ _ _ _ _ _ _ _ _ _ _ _ _ _ _ _ _ _ _ _ _ _ _ _ _ _ _ _ _ _ _ _ _ _ _ _ _ _ _ _ _ _ _ _ _ _ _ _ _ _ _ _ _ _ _ _ _ _ _ _ _ _ _ _ _ _ _ _ _ _ _ _ _ _ _ _ _ _ _ _ _ _ _ _ _ _ _ _ _ _ _ _ _ _ _ _ _ _ _ _ _ _ _ _ _ _ _ _ _ _ _ _ _ _ _ _ _ _ _ _ _ _ _ _ _ _ _ _ _ _ _ _ _ _ _ _ _ _ _ _ _ _ ?_
  intro x64 x65 x66 x67 x68 x69 x70 x71 x72 x73 x74 x75 x76 x77 x78 x79 x80 x81 W4 g4
  have h4 : Bb bC 50 W W4 (yz ++ #[.int .i64 0, .int .u64 (hal 0), .int .i64 0, .int .i64 0, .int .u64 (hal 1), .int .i64 0, .int .i64 0, .int .u64 (hal 2), .int .i64 0, .int .i64 0, .int .u64 0, .int .i64 0, .int .i64 0, .int .u64 0, .int .i64 0, .int .i64 0, .int .u64 0, .int .i64 0, .int .i64 0, .int .u64 0, .int .i64 0, .int .i64 0, .int .u64 0, .int .i64 0, .bool (opn 0), .bool (opn 1), .bool false, .bool false, .int .i64 0, .int .i64 0]) := g4
  clear g4 h3
  go_wp2_with fail
  rw [rounds_succ]
  go_wp2_with fail
  refine reg15B bI bC 0 1 1 (by decide) (by decide) (by decide) _ _ _ rfl rfl rfl (hal 3) (hb 3).1 (hb 3).2 yz _ hyz rfl W _ nIC lI h4 ih3 _ _ _ _ _ _ _ _ _ _ _ _ _ _ _ _ _ _ _ _ _ _ _ _ _ _ _ _ _ _ _ _ _ _ _ _ _ _ _ _ _ _ _ _ _ _ _ _ _ _ _ _ _ _ _ _ _ _ _ _ _ _ _ _ _ _ _ _ _ _ _ _ _ _ _ _ _ _ _ _ _ _ _ _ _ _ _ _ _ _ _ _ _ _ _ _ _ _ _ _ _ _ _ _ _ _ _ _ _ _ _ _ _ _ _ _ _ _ _ _ _ _ _ _ _ _ _ _ _ _ _ _ _ _ _ _ _ _ _ _ _ _ _ _ _ _ _ _ _ _ _ _ _ _ _ _ _ _ _ _ _ _ _ _ _ _ _ _ _ _ _ _ _ _ _ _ _ _ _ _ _ _ _ _ _ _ _ _ _ _ _ _ _ _ _ _ _ _ _ _ _ _ _ _ _ _ _ _ _ _ _ _ _ _ _ _ _ _ _ _ _ _ _ _ _ _ _ _ _ _ _ _ _ _ _ _ _ _ _ _ _ _ _ _ _ _ _ _ _ _ _ _ _ _ _ _ _ _ _ _ _ _ _ _ _ _ _ _ _ _ _ _ _ _ _ _ _ _ _ _ _ ?_
  intro x64 x65 x66 x67 x68 x69 x70 x71 x72 x73 x74 x75 x76 x77 x78 x79 x80 x81 W5 g5
  have h5 : Bb bC 50 W W5 (yz ++ #[.int .i64 0, .int .u64 (hal 0), .int .i64 0, .int .i64 0, .int .u64 (hal 1), .int .i64 0, .int .i64 0, .int .u64 (hal 2), .int .i64 0, .int .i64 0, .int .u64 (hal 3), .int .i64 0, .int .i64 0, .int .u64 0, .int .i64 0, .int .i64 0, .int .u64 0, .int .i64 0, .int .i64 0, .int .u64 0, .int .i64 0, .int .i64 0, .int .u64 0, .int .i64 0, .bool (opn 0), .bool (opn 1), .bool false, .bool false, .int .i64 0, .int .i64 0]) := g5
  clear g5 h4
  go_wp2_with fail
  rw [rounds_succ]
  go_wp2_with fail
  rw [rounds_succ]
  have y0 := (h5.cell lI nIC 15).trans id0
  have y1 := blk_cell (v := .int .i64 0) h5.hb (i := 212) (by rw [show 212 = 184 + 28 from rfl, yz_get _ _ hyz]; rfl)
  have y2 := blk_frozen h5.hb (i := 212)
  obtain ⟨y3, y4⟩ := hd 0
  go_wp2_with fail
  clear y0 y1 y2 y3 y4
  have k0 := h5.set 212 (.int .i64 (dec 0 % 3))
  rw [show 212 = 184 + 28 from rfl, yz_set _ _ hyz] at k0
  have j0 : Bb bC 50 W _ (yz ++ #[.int .i64 0, .int .u64 (hal 0), .int .i64 0, .int .i64 0, .int .u64 (hal 1), .int .i64 0, .int .i64 0, .int .u64 (hal 2), .int .i64 0, .int .i64 0, .int .u64 (hal 3), .int .i64 0, .int .i64 0, .int .u64 0, .int .i64 0, .int .i64 0, .int .u64 0, .int .i64 0, .int .i64 0, .int .u64 0, .int .i64 0, .int .i64 0, .int .u64 0, .int .i64 0, .bool (opn 0), .bool (opn 1), .bool false, .bool false, .int .i64 (dec 0 % 3), .int .i64 0]) := k0
  clear k0
  rw [rounds_succ]
  go_wp2_with fail
  refine wp_loop_rounds 3 ?_
  rw [rounds_succ]
  go_wp2_with fail
  refine reg11B bI bC 1 0 (by decide) (by decide) _ _ rfl rfl (opn 2) yz _ hyz rfl W _ nIC lI j0 io2 _ _ _ _ _ _ _ _ _ _ _ _ _ _ _ _ _ _ _ _ _ _ _ _ _ _ _ _ _ _ _ _ _ _ _ _ _ _ _ _ _ _ _ _ _ _ _ _ _ _ _ _ _ _ _ _ _ _ _ _ _ _ _ _ _ _ _ _ _ _ _ _ _ _ _ _ _ _ _ _ _ _ _ _ _ _ _ _ _ _ _ _ _ _ _ _ _ _ _ _ _ _ _ _ _ _ _ _ _ _ _ _ _ _ _ _ _ _ _ _ _ _ _ _ _ _ _ _ _ _ _ _ _ _ _ _ _ _ _ _ _ _ _ _ _ _ _ _ _ _ _ _ _ _ _ _ _ _ _ _ _ _ _ _ _ _ _ _ _ _ _ _ _ _ _ _ _ _ _ _ _ _ _ _ _ _ _ _ _ _ _ _ _ _ _ _ _ _ _ _ _ _ _ _ _ _ _ _ _ _ _ _ _ _ _ _ _ _ _ _ _ _ _ _ _ _ _ _ _ _ _ _ _ _ _ _ _ _ _ _ _ _ _ _ _ _ _ _ _ _ _ _ _ _ _ _ _ _ _ _ _ _ _ _ _ _ _ _ _ _ _ _ _ _ _ _ _ _ _ _ _ _ ?_
  intro x48 x49 x50 x51 x52 x53 x54 x55 x56 x57 x58 x59 W6 g6
  have h6 : Bb bC 50 W W6 (yz ++ #[.int .i64 0, .int .u64 (hal 0), .int .i64 0, .int .i64 0, .int .u64 (hal 1), .int .i64 0, .int .i64 0, .int .u64 (hal 2), .int .i64 0, .int .i64 0, .int .u64 (hal 3), .int .i64 0, .int .i64 0, .int .u64 0, .int .i64 0, .int .i64 0, .int .u64 0, .int .i64 0, .int .i64 0, .int .u64 0, .int .i64 0, .int .i64 0, .int .u64 0, .int .i64 0, .bool (opn 0), .bool (opn 1), .bool (opn 2), .bool false, .int .i64 (dec 0 % 3), .int .i64 0]) := g6
  clear g6 h5
  go_wp2_with fail
  refine wp_loop_rounds 3 ?_
  rw [rounds_succ]
  go_wp2_with fail
  refine reg15B bI bC 1 0 0 (by decide) (by decide) (by decide) _ _ _ rfl rfl rfl (hal 4) (hb 4).1 (hb 4).2 yz _ hyz rfl W _ nIC lI h6 ih4 _ _ _ _ _ _ _ _ _ _ _ _ _ _ _ _ _ _ _ _ _ _ _ _ _ _ _ _ _ _ _ _ _ _ _ _ _ _ _ _ _ _ _ _ _ _ _ _ _ _ _ _ _ _ _ _ _ _ _ _ _ _ _ _ _ _ _ _ _ _ _ _ _ _ _ _ _ _ _ _ _ _ _ _ _ _ _ _ _ _ _ _ _ _ _ _ _ _ _ _ _ _ _ _ _ _ _ _ _ _ _ _ _ _ _ _ _ _ _ _ _ _ _ _ _ _ _ _ _ _ _ _ _ _ _ _ _ _ _ _ _ _ _ _ _ _ _ _ _ _ _ _ _ _ _ _ _ _ _ _ _ _ _ _ _ _ _ _ _ _ _ _ _ _ _ _ _ _ _ _ _ _ _ _ _ _ _ _ _ _ _ _ _ _ _ _ _ _ _ _ _ _ _ _ _ _ _ _ _ _ _ _ _ _ _ _ _ _ _ _ _ _ _ _ _ _ _ _ _ _ _ _ _ _ _ _ _ _ _ _ _ _ _ _ _ _ _ _ _ _ _ _ _ _ _ _ _ _ _ _ _ _ _ _ _ _ _ _ _ _ _ _ _ _ _ _ _ _ _ _ _ ?_
  intro x64 x65 x66 x67 x68 x69 x70 x71 x72 x73 x74 x75 x76 x77 x78 x79 x80 x81 W7 g7
  have h7 : Bb bC 50 W W7 (yz ++ #[.int .i64 0, .int .u64 (hal 0), .int .i64 0, .int .i64 0, .int .u64 (hal 1), .int .i64 0, .int .i64 0, .int .u64 (hal 2), .int .i64 0, .int .i64 0, .int .u64 (hal 3), .int .i64 0, .int .i64 0, .int .u64 (hal 4), .int .i64 0, .int .i64 0, .int .u64 0, .int .i64 0, .int .i64 0, .int .u64 0, .int .i64 0, .int .i64 0, .int .u64 0, .int .i64 0, .bool (opn 0), .bool (opn 1), .bool (opn 2), .bool false, .int .i64 (dec 0 % 3), .int .i64 0]) := g7
  clear g7 h6
  go_wp2_with fail
  rw [rounds_succ]
  go_wp2_with fail
  refine reg15B bI bC 1 0 1 (by decide) (by decide) (by decide) _ _ _ rfl rfl rfl (hal 5) (hb 5).1 (hb 5).2 yz _ hyz rfl W _ nIC lI h7 ih5 _ _ _ _ _ _ _ _ _ _ _ _ _ _ _ _ _ _ _ _ _ _ _ _ _ _ _ _ _ _ _ _ _ _ _ _ _ _ _ _ _ _ _ _ _ _ _ _ _ _ _ _ _ _ _ _ _ _ _ _ _ _ _ _ _ _ _ _ _ _ _ _ _ _ _ _ _ _ _ _ _ _ _ _ _ _ _ _ _ _ _ _ _ _ _ _ _ _ _ _ _ _ _ _ _ _ _ _ _ _ _ _ _ _ _ _ _ _ _ _ _ _ _ _ _ _ _ _ _ _ _ _ _ _ _ _ _ _ _ _ _ _ _ _ _ _ _ _ _ _ _ _ _ _ _ _ _ _ _ _ _ _ _ _ _ _ _ _ _ _ _ _ _ _ _ _ _ _ _ _ _ _ _ _ _ _ _ _ _ _ _ _ _ _ _ _ _ _ _ _ _ _ _ _ _ _ _ _ _ _ _ _ _ _ _ _ _ _ _ _ _ _ _ _ _ _ _ _ _ _ _ _ _ _ _ _ _ _ _ _ _ _ _ _ _ _ _ _ _ _ _ _ _ _ _ _ _ _ _ _ _ _ _ _ _ _ _ _ _ _ _ _ _ _ _ _ _ _ _ _ _ ?_
  intro x64 x65 x66 x67 x68 x69 x70 x71 x72 x73 x74 x75 x76 x77 x78 x79 x80 x81 W8 g8
  have h8 : Bb bC 50 W W8 (yz ++ #[.int .i64 0, .int .u64 (hal 0), .int .i64 0, .int .i64 0, .int .u64 (hal 1), .int .i64 0, .int .i64 0, .int .u64 (hal 2), .int .i64 0, .int .i64 0, .int .u64 (hal 3), .int .i64 0, .int .i64 0, .int .u64 (hal 4), .int .i64 0, .int .i64 0, .int .u64 (hal 5), .int .i64 0, .int .i64 0, .int .u64 0, .int .i64 0, .int .i64 0, .int .u64 0, .int .i64 0, .bool (opn 0), .bool (opn 1), .bool (opn 2), .bool false, .int .i64 (dec 0 % 3), .int .i64 0]) := g8
  clear g8 h7
  go_wp2_with fail
  rw [rounds_succ]
  go_wp2_with fail
  rw [rounds_succ]
  go_wp2_with fail
  refine reg11B bI bC 1 1 (by decide) (by decide) _ _ rfl rfl (opn 3) yz _ hyz rfl W _ nIC lI h8 io3 _ _ _ _ _ _ _ _ _ _ _ _ _ _ _ _ _ _ _ _ _ _ _ _ _ _ _ _ _ _ _ _ _ _ _ _ _ _ _ _ _ _ _ _ _ _ _ _ _ _ _ _ _ _ _ _ _ _ _ _ _ _ _ _ _ _ _ _ _ _ _ _ _ _ _ _ _ _ _ _ _ _ _ _ _ _ _ _ _ _ _ _ _ _ _ _ _ _ _ _ _ _ _ _ _ _ _ _ _ _ _ _ _ _ _ _ _ _ _ _ _ _ _ _ _ _ _ _ _ _ _ _ _ _ _ _ _ _ _ _ _ _ _ _ _ _ _ _ _ _ _ _ _ _ _ _ _ _ _ _ _ _ _ _ _ _ _ _ _ _ _ _ _ _ _ _ _ _ _ _ _ _ _ _ _ _ _ _ _ _ _ _ _ _ _ _ _ _ _ _ _ _ _ _ _ _ _ _ _ _ _ _ _ _ _ _ _ _ _ _ _ _ _ _ _ _ _ _ _ _ _ _ _ _ _ _ _ _ _ _ _ _ _ _ _ _ _ _ _ _ _ _ _ _ _ _ _ _ _ _ _ _ _ _ _ _ _ _ _ _ _ _ _ _ _ _ _ _ _ _ _ _ ?_
  intro x48 x49 x50 x51 x52 x53 x54 x55 x56 x57 x58 x59 W9 g9
  have h9 : Bb bC 50 W W9 (yz ++ #[.int .i64 0, .int .u64 (hal 0), .int .i64 0, .int .i64 0, .int .u64 (hal 1), .int .i64 0, .int .i64 0, .int .u64 (hal 2), .int .i64 0, .int .i64 0, .int .u64 (hal 3), .int .i64 0, .int .i64 0, .int .u64 (hal 4), .int .i64 0, .int .i64 0, .int .u64 (hal 5), .int .i64 0, .int .i64 0, .int .u64 0, .int .i64 0, .int .i64 0, .int .u64 0, .int .i64 0, .bool (opn 0), .bool (opn 1), .bool (opn 2), .bool (opn 3), .int .i64 (dec 0 % 3), .int .i64 0]) := g9
  clear g9 h8
  go_wp2_with fail
  refine wp_loop_rounds 3 ?_
  rw [rounds_succ]
  go_wp2_with fail
  refine reg15B bI bC 1 1 0 (by decide) (by decide) (by decide) _ _ _ rfl rfl rfl (hal 6) (hb 6).1 (hb 6).2 yz _ hyz rfl W _ nIC lI h9 ih6 _ _ _ _ _ _ _ _ _ _ _ _ _ _ _ _ _ _ _ _ _ _ _ _ _ _ _ _ _ _ _ _ _ _ _ _ _ _ _ _ _ _ _ _ _ _ _ _ _ _ _ _ _ _ _ _ _ _ _ _ _ _ _ _ _ _ _ _ _ _ _ _ _ _ _ _ _ _ _ _ _ _ _ _ _ _ _ _ _ _ _ _ _ _ _ _ _ _ _ _ _ _ _ _ _ _ _ _ _ _ _ _ _ _ _ _ _ _ _ _ _ _ _ _ _ _ _ _ _ _ _ _ _ _ _ _ _ _ _ _ _ _ _ _ _ _ _ _ _ _ _ _ _ _ _ _ _ _ _ _ _ _ _ _ _ _ _ _ _ _ _ _ _ _ _ _ _ _ _ _ _ _ _ _ _ _ _ _ _ _ _ _ _ _ _ _ _ _ _ _ _ _ _ _ _ _ _ _ _ _ _ _ _ _ _ _ _ _ _ _ _ _ _ _ _ _ _ _ _ _ _ _ _ _ _ _ _ _ _ _ _ _ _ _ _ _ _ _ _ _ _ _ _ _ _ _ _ _ _ _ _ _ _ _ _ _ _ _ _ _ _ _ _ _ _ _ _ _ _ _ _ ?_
  intro x64 x65 x66 x67 x68 x69 x70 x71 x72 x73 x74 x75 x76 x77 x78 x79 x80 x81 W10 g10
  have h10 : Bb bC 50 W W10 (yz ++ #[.int .i64 0, .int .u64 (hal 0), .int .i64 0, .int .i64 0, .int .u64 (hal 1), .int .i64 0, .int .i64 0, .int .u64 (hal 2), .int .i64 0, .int .i64 0, .int .u64 (hal 3), .int .i64 0, .int .i64 0, .int .u64 (hal 4), .int .i64 0, .int .i64 0, .int .u64 (hal 5), .int .i64 0, .int .i64 0, .int .u64 (hal 6), .int .i64 0, .int .i64 0, .int .u64 0, .int .i64 0, .bool (opn 0), .bool (opn 1), .bool (opn 2), .bool (opn 3), .int .i64 (dec 0 % 3), .int .i64 0]) := g10
  clear g10 h9
  go_wp2_with fail
  rw [rounds_succ]
  go_wp2_with fail
  refine reg15B bI bC 1 1 1 (by decide) (by decide) (by decide) _ _ _ rfl rfl rfl (hal 7) (hb 7).1 (hb 7).2 yz _ hyz rfl W _ nIC lI h10 ih7 _ _ _ _ _ _ _ _ _ _ _ _ _ _ _ _ _ _ _ _ _ _ _ _ _ _ _ _ _ _ _ _ _ _ _ _ _ _ _ _ _ _ _ _ _ _ _ _ _ _ _ _ _ _ _ _ _ _ _ _ _ _ _ _ _ _ _ _ _ _ _ _ _ _ _ _ _ _ _ _ _ _ _ _ _ _ _ _ _ _ _ _ _ _ _ _ _ _ _ _ _ _ _ _ _ _ _ _ _ _ _ _ _ _ _ _ _ _ _ _ _ _ _ _ _ _ _ _ _ _ _ _ _ _ _ _ _ _ _ _ _ _ _ _ _ _ _ _ _ _ _ _ _ _ _ _ _ _ _ _ _ _ _ _ _ _ _ _ _ _ _ _ _ _ _ _ _ _ _ _ _ _ _ _ _ _ _ _ _ _ _ _ _ _ _ _ _ _ _ _ _ _ _ _ _ _ _ _ _ _ _ _ _ _ _ _ _ _ _ _ _ _ _ _ _ _ _ _ _ _ _ _ _ _ _ _ _ _ _ _ _ _ _ _ _ _ _ _ _ _ _ _ _ _ _ _ _ _ _ _ _ _ _ _ _ _ _ _ _ _ _ _ _ _ _ _ _ _ _ _ _ ?_
  intro x64 x65 x66 x67 x68 x69 x70 x71 x72 x73 x74 x75 x76 x77 x78 x79 x80 x81 W11 g11
  have h11 : Bb bC 50 W W11 (yz ++ #[.int .i64 0, .int .u64 (hal 0), .int .i64 0, .int .i64 0, .int .u64 (hal 1), .int .i64 0, .int .i64 0, .int .u64 (hal 2), .int .i64 0, .int .i64 0, .int .u64 (hal 3), .int .i64 0, .int .i64 0, .int .u64 (hal 4), .int .i64 0, .int .i64 0, .int .u64 (hal 5), .int .i64 0, .int .i64 0, .int .u64 (hal 6), .int .i64 0, .int .i64 0, .int .u64 (hal 7), .int .i64 0, .bool (opn 0), .bool (opn 1), .bool (opn 2), .bool (opn 3), .int .i64 (dec 0 % 3), .int .i64 0]) := g11
  clear g11 h10
  go_wp2_with fail
  rw [rounds_succ]
  go_wp2_with fail
  rw [rounds_succ]
  have y0 := (h11.cell lI nIC 16).trans id1
  have y1 := blk_cell (v := .int .i64 0) h11.hb (i := 213) (by rw [show 213 = 184 + 29 from rfl, yz_get _ _ hyz]; rfl)
  have y2 := blk_frozen h11.hb (i := 213)
  obtain ⟨y3, y4⟩ := hd 1
  go_wp2_with fail
  clear y0 y1 y2 y3 y4
  have k1 := h11.set 213 (.int .i64 (dec 1 % 3))
  rw [show 213 = 184 + 29 from rfl, yz_set _ _ hyz] at k1
  have j1 : Bb bC 50 W _ (yz ++ #[.int .i64 0, .int .u64 (hal 0), .int .i64 0, .int .i64 0, .int .u64 (hal 1), .int .i64 0, .int .i64 0, .int .u64 (hal 2), .int .i64 0, .int .i64 0, .int .u64 (hal 3), .int .i64 0, .int .i64 0, .int .u64 (hal 4), .int .i64 0, .int .i64 0, .int .u64 (hal 5), .int .i64 0, .int .i64 0, .int .u64 (hal 6), .int .i64 0, .int .i64 0, .int .u64 (hal 7), .int .i64 0, .bool (opn 0), .bool (opn 1), .bool (opn 2), .bool (opn 3), .int .i64 (dec 0 % 3), .int .i64 (dec 1 % 3)]) := k1
  clear k1
  rw [rounds_succ]
  go_wp2_with fail
  exact HX.out _ _ _ _ _ _ _ _ _ _ _ _ _ _ _ _ _ _ _ _ _ _ _ _ _ _ _ _ _ _ _ _ _ _ _ _ _ _ _ _ _ _ _ _ _ _ _ _ _ _ _ _ _ _ _ j1
end Go.Proofs.Ybulkuvq
