import Derived.Test.YbulkuvqRegD
namespace Go.Proofs.Ybulkuvq
open Go Go.RowKit
set_option linter.unusedVariables false

/-- Blocks x and y hold cs and ds; every other block that was there is as it was. -/
structure Two (x y : Nat) (w0 w : World) (cs ds : Array Value) : Prop where
  os : w.os = w0.os
  tape : w.tape = w0.tape
  output : w.output = w0.output
  size : w0.heap.size ≤ w.heap.size
  lx : x < w0.heap.size
  ly : y < w0.heap.size
  hx : w.heap[x]? = some (.cells cs 54 (0, 0))
  hy : w.heap[y]? = some (.cells ds 30 (0, 0))
  block : ∀ k, k < w0.heap.size → k ≠ x → k ≠ y → w.heap[k]? = w0.heap[k]?
section
variable {x y : Nat} {w0 w : World} {cs ds : Array Value}
theorem Two.start (hxy : x ≠ y) (h : w0.heap[x]? = some (.cells cs 54 (0, 0))) (h' : w0.heap[y]? = some (.cells ds 30 (0, 0))) : Two x y w0 w0 cs ds :=
  ⟨rfl, rfl, rfl, Nat.le_refl _, (Array.getElem?_eq_some_iff.1 h).1, (Array.getElem?_eq_some_iff.1 h').1, h, h', fun _ _ _ _ => rfl⟩
theorem Two.setX (h : Two x y w0 w cs ds) (hxy : x ≠ y) (i : Nat) (v : Value) : Two x y w0 (w.setCell ⟨x, i, none⟩ v) (cs.setIfInBounds i v) ds :=
  ⟨h.os, h.tape, h.output, by simpa using h.size, h.lx, h.ly, blk_set h.hx v, by rw [Below.heap_setCell _ _ _ _ (by simpa using fun e => hxy e.symm)]; exact h.hy,
   fun k hk h1 h2 => by rw [Below.heap_setCell _ _ _ _ (by simpa using h1)]; exact h.block k hk h1 h2⟩
theorem Two.setY (h : Two x y w0 w cs ds) (hxy : x ≠ y) (i : Nat) (v : Value) : Two x y w0 (w.setCell ⟨y, i, none⟩ v) cs (ds.setIfInBounds i v) :=
  ⟨h.os, h.tape, h.output, by simpa using h.size, h.lx, h.ly, by rw [Below.heap_setCell _ _ _ _ (by simpa using hxy)]; exact h.hx, blk_set h.hy v,
   fun k hk h1 h2 => by rw [Below.heap_setCell _ _ _ _ (by simpa using h2)]; exact h.block k hk h1 h2⟩
theorem Two.cell (h : Two x y w0 w cs ds) {b : Nat} (hb : b < w0.heap.size) (h1 : b ≠ x) (h2 : b ≠ y) (i : Nat) : w.cell? ⟨b, i, none⟩ = w0.cell? ⟨b, i, none⟩ := cell_of (h.block b hb h1 h2)
end

theorem A12_set (f : Nat → Int) (k : Nat) (hk : k < 12) (v : Int) : (A12 f).setIfInBounds k (.int .i64 v) = A12 (fun j => if j = k then v else f j) := by
  match k, hk with
  | 0, _ | 1, _ | 2, _ | 3, _ | 4, _ | 5, _ | 6, _ | 7, _ | 8, _ | 9, _ | 10, _ | 11, _ => rfl
/-- an age, twelve numbers, a pointer -/
abbrev A14 (age : Int) (f : Nat → Int) (p : Value) : Array Value :=
  #[.int .i64 age, .int .i64 (f 0), .int .i64 (f 1), .int .i64 (f 2), .int .i64 (f 3), .int .i64 (f 4), .int .i64 (f 5), .int .i64 (f 6), .int .i64 (f 7), .int .i64 (f 8), .int .i64 (f 9), .int .i64 (f 10), .int .i64 (f 11), p]
theorem A14_set (age : Int) (f : Nat → Int) (k : Nat) (hk : k < 12) (v : Int) (p : Value) : (A14 age f p).setIfInBounds (1 + k) (.int .i64 v) = A14 age (fun j => if j = k then v else f j) p := by
  match k, hk with
  | 0, _ | 1, _ | 2, _ | 3, _ | 4, _ | 5, _ | 6, _ | 7, _ | 8, _ | 9, _ | 10, _ | 11, _ => rfl
theorem A14_at (age : Int) (f : Nat → Int) (k : Nat) (hk : k < 12) (p : Value) : (A14 age f p)[1 + k]? = some (.int .i64 (f k)) := by
  match k, hk with
  | 0, _ | 1, _ | 2, _ | 3, _ | 4, _ | 5, _ | 6, _ | 7, _ | 8, _ | 9, _ | 10, _ | 11, _ => rfl
/-- the first k filled -/
def upto (g : Nat → Int) (k : Nat) : Nat → Int := fun j => if j < k then g j else 0
theorem upto_step (g : Nat → Int) (k : Nat) : (fun j => if j = k then g k else upto g k j) = upto g (k + 1) := by
  funext j
  unfold upto
  by_cases h : j = k
  · subst h; simp
  · by_cases h2 : j < k
    · simp [h, h2, Nat.lt_succ_of_lt h2]
    · have : ¬ j < k + 1 := by omega
      simp [h, h2, this]
theorem A12_upto (g : Nat → Int) : A12 (upto g 12) = A12 g := rfl
theorem A12_upto0 (g : Nat → Int) : A12 (upto g 0) = A12 (fun _ => 0) := rfl

def loopAt : Nat → Code → Option Code
  | n, c => (go n c).1
where
  go : Nat → Code → Option Code × Nat
  | n, .loop c => if n = 0 then (some c, 0) else (none, n - 1)
  | n, .seq a b => match go n a with
    | (some c, m) => (some c, m)
    | (none, m) => go m b
  | n, .block _ c => go n c
  | n, .scope c => go n c
  | n, .cond _ a b => match go n a with
    | (some c, m) => (some c, m)
    | (none, m) => go m b
  | n, _ => (none, n)

set_option maxRecDepth 1000000 in
set_option maxHeartbeats 4000000 in
theorem loop4 (bI bP bV : Nat) (age : Int) (wcv cov : Nat → Int) (hw : ∀ k, 0 ≤ wcv k ∧ wcv k ≤ 255) (hc : ∀ k, 0 ≤ cov k ∧ cov k ≤ 255)
    (W : World) (nPV : bP ≠ bV) (nIP : bI ≠ bP) (nIV : bI ≠ bV) (lI : bI < W.heap.size)
    (hIw : ∀ k, k < 12 → W.cell? ⟨bI, 18 + k, none⟩ = some (.int .u8 (wcv k))) (hIc : ∀ k, k < 12 → W.cell? ⟨bI, 30 + k, none⟩ = some (.int .u8 (cov k)))
    (hP : W.heap[bP]? = some (.cells (A14 age (fun _ => 0) (.pointer none)) 54 (0, 0))) (hV : W.heap[bV]? = some (.cells (A12 (fun _ => 0)) 30 (0, 0))) (u0 u2 u3 u4 u5 u6 u7 u8 u9 u13 u14 u15 u16 u17 u18 u19 u20 u21 u22 u23 u24 u25 u26 u27 u28 u29 u30 u31 u32 u33 u34 u35 u36 u37 u38 u39 u40 u41 u42 u43 u44 u45 u46 u47 u48 u49 u50 u51 u52 u53 u54 u55 u56 u57 u58 u59 u60 u61 u62 u63 u64 u65 u66 u67 u68 u69 u70 u71 u72 u73 u74 u75 u76 u77 u78 u79 u80 u81 u82 u83 u84 u85 u86 u87 u88 u89 u90 u91 u92 u93 u94 u95 u96 u97 u98 u99 u100 u101 u102 u103 u104 u105 u106 u107 u108 u109 u110 u111 u112 u113 u114 u115 u116 u117 u118 u119 u120 u121 u122 u123 u124 u125 u126 u127 u128 u129 u130 u131 u132 u133 u134 u135 u136 u137 u138 u139 u140 u141 u142 u143 u144 u145 u146 u147 u148 u149 u150 u151 u152 u153 u154 u155 u156 u157 u158 u159 u160 u161 u162 u163 u164 u165 u166 u167 u168 u169 u170 u171 u172 u173 u174 u175 u176 u177 u178 u179 u180 u181 u182 u183 u184 u185 u186 u187 u188 u189 u190 u191 u192 u193 u194 u195 u196 u197 u198 u199 u200 u201 u202 u203 u204 u205 u206 u207 u208 u209 u210 u211 u212 u213 u214 u215 u216 u217 u218 u219 u220 u221 u222 u223 u224 u225 u226 u227 u228 u229 u230 u231 u232 u233 u234 u235 u236 u237 u238 u239 u240 u241 u242 u243 u244 u245 u246 u247 u248 u249 u250 u251 u252 u253 u254 u255 u256 u257 u258 u259 u260 u261 u262 u263 u264 u265 u266 u267 u268 u269 u270 u271 u272 u273 u274 u275 u276 u277 u278 u279 u280 u281 u282 u283 u284 : Value) (Q0 : Exit → Act → World → Prop)
    (hexit : ∀ (x12 x94 x95 x96 x97 x98 x99 x100 x101 x102 x103 x104 x105 x106 x107 x108 x109 x110 x111 x112 x113 x114 : Value) (W' : World), Two bP bV W W' (A14 age (fun j => wcv j % 3) (.pointer none)) (A12 (fun j => cov j % 3)) → Q0 (.exit 6) ⟨(u0 :: .pointer (some ⟨bI, 0, none⟩) :: u2 :: u3 :: u4 :: u5 :: u6 :: u7 :: u8 :: u9 :: .pointer (some ⟨bP, 0, none⟩) :: .pointer (some ⟨bV, 0, none⟩) :: x12 :: u13 :: u14 :: u15 :: u16 :: u17 :: u18 :: u19 :: u20 :: u21 :: u22 :: u23 :: u24 :: u25 :: u26 :: u27 :: u28 :: u29 :: u30 :: u31 :: u32 :: u33 :: u34 :: u35 :: u36 :: u37 :: u38 :: u39 :: u40 :: u41 :: u42 :: u43 :: u44 :: u45 :: u46 :: u47 :: u48 :: u49 :: u50 :: u51 :: u52 :: u53 :: u54 :: u55 :: u56 :: u57 :: u58 :: u59 :: u60 :: u61 :: u62 :: u63 :: u64 :: u65 :: u66 :: u67 :: u68 :: u69 :: u70 :: u71 :: u72 :: u73 :: u74 :: u75 :: u76 :: u77 :: u78 :: u79 :: u80 :: u81 :: u82 :: u83 :: u84 :: u85 :: u86 :: u87 :: u88 :: u89 :: u90 :: u91 :: u92 :: u93 :: x94 :: x95 :: x96 :: x97 :: x98 :: x99 :: x100 :: x101 :: x102 :: x103 :: x104 :: x105 :: x106 :: x107 :: x108 :: x109 :: x110 :: x111 :: x112 :: x113 :: x114 :: u115 :: u116 :: u117 :: u118 :: u119 :: u120 :: u121 :: u122 :: u123 :: u124 :: u125 :: u126 :: u127 :: u128 :: u129 :: u130 :: u131 :: u132 :: u133 :: u134 :: u135 :: u136 :: u137 :: u138 :: u139 :: u140 :: u141 :: u142 :: u143 :: u144 :: u145 :: u146 :: u147 :: u148 :: u149 :: u150 :: u151 :: u152 :: u153 :: u154 :: u155 :: u156 :: u157 :: u158 :: u159 :: u160 :: u161 :: u162 :: u163 :: u164 :: u165 :: u166 :: u167 :: u168 :: u169 :: u170 :: u171 :: u172 :: u173 :: u174 :: u175 :: u176 :: u177 :: u178 :: u179 :: u180 :: u181 :: u182 :: u183 :: u184 :: u185 :: u186 :: u187 :: u188 :: u189 :: u190 :: u191 :: u192 :: u193 :: u194 :: u195 :: u196 :: u197 :: u198 :: u199 :: u200 :: u201 :: u202 :: u203 :: u204 :: u205 :: u206 :: u207 :: u208 :: u209 :: u210 :: u211 :: u212 :: u213 :: u214 :: u215 :: u216 :: u217 :: u218 :: u219 :: u220 :: u221 :: u222 :: u223 :: u224 :: u225 :: u226 :: u227 :: u228 :: u229 :: u230 :: u231 :: u232 :: u233 :: u234 :: u235 :: u236 :: u237 :: u238 :: u239 :: u240 :: u241 :: u242 :: u243 :: u244 :: u245 :: u246 :: u247 :: u248 :: u249 :: u250 :: u251 :: u252 :: u253 :: u254 :: u255 :: u256 :: u257 :: u258 :: u259 :: u260 :: u261 :: u262 :: u263 :: u264 :: u265 :: u266 :: u267 :: u268 :: u269 :: u270 :: u271 :: u272 :: u273 :: u274 :: u275 :: u276 :: u277 :: u278 :: u279 :: u280 :: u281 :: u282 :: u283 :: u284 :: []).toArray, []⟩ W') :
    Code.wp Yba.prog (Code.loop ((Yba.f3.body.bind (loopAt 1)).getD .skip)) Q0 ⟨(u0 :: .pointer (some ⟨bI, 0, none⟩) :: u2 :: u3 :: u4 :: u5 :: u6 :: u7 :: u8 :: u9 :: .pointer (some ⟨bP, 0, none⟩) :: .pointer (some ⟨bV, 0, none⟩) :: .int .i64 0 :: u13 :: u14 :: u15 :: u16 :: u17 :: u18 :: u19 :: u20 :: u21 :: u22 :: u23 :: u24 :: u25 :: u26 :: u27 :: u28 :: u29 :: u30 :: u31 :: u32 :: u33 :: u34 :: u35 :: u36 :: u37 :: u38 :: u39 :: u40 :: u41 :: u42 :: u43 :: u44 :: u45 :: u46 :: u47 :: u48 :: u49 :: u50 :: u51 :: u52 :: u53 :: u54 :: u55 :: u56 :: u57 :: u58 :: u59 :: u60 :: u61 :: u62 :: u63 :: u64 :: u65 :: u66 :: u67 :: u68 :: u69 :: u70 :: u71 :: u72 :: u73 :: u74 :: u75 :: u76 :: u77 :: u78 :: u79 :: u80 :: u81 :: u82 :: u83 :: u84 :: u85 :: u86 :: u87 :: u88 :: u89 :: u90 :: u91 :: u92 :: u93 :: u94 :: u95 :: u96 :: u97 :: u98 :: u99 :: u100 :: u101 :: u102 :: u103 :: u104 :: u105 :: u106 :: u107 :: u108 :: u109 :: u110 :: u111 :: u112 :: u113 :: u114 :: u115 :: u116 :: u117 :: u118 :: u119 :: u120 :: u121 :: u122 :: u123 :: u124 :: u125 :: u126 :: u127 :: u128 :: u129 :: u130 :: u131 :: u132 :: u133 :: u134 :: u135 :: u136 :: u137 :: u138 :: u139 :: u140 :: u141 :: u142 :: u143 :: u144 :: u145 :: u146 :: u147 :: u148 :: u149 :: u150 :: u151 :: u152 :: u153 :: u154 :: u155 :: u156 :: u157 :: u158 :: u159 :: u160 :: u161 :: u162 :: u163 :: u164 :: u165 :: u166 :: u167 :: u168 :: u169 :: u170 :: u171 :: u172 :: u173 :: u174 :: u175 :: u176 :: u177 :: u178 :: u179 :: u180 :: u181 :: u182 :: u183 :: u184 :: u185 :: u186 :: u187 :: u188 :: u189 :: u190 :: u191 :: u192 :: u193 :: u194 :: u195 :: u196 :: u197 :: u198 :: u199 :: u200 :: u201 :: u202 :: u203 :: u204 :: u205 :: u206 :: u207 :: u208 :: u209 :: u210 :: u211 :: u212 :: u213 :: u214 :: u215 :: u216 :: u217 :: u218 :: u219 :: u220 :: u221 :: u222 :: u223 :: u224 :: u225 :: u226 :: u227 :: u228 :: u229 :: u230 :: u231 :: u232 :: u233 :: u234 :: u235 :: u236 :: u237 :: u238 :: u239 :: u240 :: u241 :: u242 :: u243 :: u244 :: u245 :: u246 :: u247 :: u248 :: u249 :: u250 :: u251 :: u252 :: u253 :: u254 :: u255 :: u256 :: u257 :: u258 :: u259 :: u260 :: u261 :: u262 :: u263 :: u264 :: u265 :: u266 :: u267 :: u268 :: u269 :: u270 :: u271 :: u272 :: u273 :: u274 :: u275 :: u276 :: u277 :: u278 :: u279 :: u280 :: u281 :: u282 :: u283 :: u284 :: []).toArray, []⟩ W := by
  have HX : Hid (∀ (x12 x94 x95 x96 x97 x98 x99 x100 x101 x102 x103 x104 x105 x106 x107 x108 x109 x110 x111 x112 x113 x114 : Value) (W' : World), Two bP bV W W' (A14 age (fun j => wcv j % 3) (.pointer none)) (A12 (fun j => cov j % 3)) → Q0 (.exit 6) ⟨(u0 :: .pointer (some ⟨bI, 0, none⟩) :: u2 :: u3 :: u4 :: u5 :: u6 :: u7 :: u8 :: u9 :: .pointer (some ⟨bP, 0, none⟩) :: .pointer (some ⟨bV, 0, none⟩) :: x12 :: u13 :: u14 :: u15 :: u16 :: u17 :: u18 :: u19 :: u20 :: u21 :: u22 :: u23 :: u24 :: u25 :: u26 :: u27 :: u28 :: u29 :: u30 :: u31 :: u32 :: u33 :: u34 :: u35 :: u36 :: u37 :: u38 :: u39 :: u40 :: u41 :: u42 :: u43 :: u44 :: u45 :: u46 :: u47 :: u48 :: u49 :: u50 :: u51 :: u52 :: u53 :: u54 :: u55 :: u56 :: u57 :: u58 :: u59 :: u60 :: u61 :: u62 :: u63 :: u64 :: u65 :: u66 :: u67 :: u68 :: u69 :: u70 :: u71 :: u72 :: u73 :: u74 :: u75 :: u76 :: u77 :: u78 :: u79 :: u80 :: u81 :: u82 :: u83 :: u84 :: u85 :: u86 :: u87 :: u88 :: u89 :: u90 :: u91 :: u92 :: u93 :: x94 :: x95 :: x96 :: x97 :: x98 :: x99 :: x100 :: x101 :: x102 :: x103 :: x104 :: x105 :: x106 :: x107 :: x108 :: x109 :: x110 :: x111 :: x112 :: x113 :: x114 :: u115 :: u116 :: u117 :: u118 :: u119 :: u120 :: u121 :: u122 :: u123 :: u124 :: u125 :: u126 :: u127 :: u128 :: u129 :: u130 :: u131 :: u132 :: u133 :: u134 :: u135 :: u136 :: u137 :: u138 :: u139 :: u140 :: u141 :: u142 :: u143 :: u144 :: u145 :: u146 :: u147 :: u148 :: u149 :: u150 :: u151 :: u152 :: u153 :: u154 :: u155 :: u156 :: u157 :: u158 :: u159 :: u160 :: u161 :: u162 :: u163 :: u164 :: u165 :: u166 :: u167 :: u168 :: u169 :: u170 :: u171 :: u172 :: u173 :: u174 :: u175 :: u176 :: u177 :: u178 :: u179 :: u180 :: u181 :: u182 :: u183 :: u184 :: u185 :: u186 :: u187 :: u188 :: u189 :: u190 :: u191 :: u192 :: u193 :: u194 :: u195 :: u196 :: u197 :: u198 :: u199 :: u200 :: u201 :: u202 :: u203 :: u204 :: u205 :: u206 :: u207 :: u208 :: u209 :: u210 :: u211 :: u212 :: u213 :: u214 :: u215 :: u216 :: u217 :: u218 :: u219 :: u220 :: u221 :: u222 :: u223 :: u224 :: u225 :: u226 :: u227 :: u228 :: u229 :: u230 :: u231 :: u232 :: u233 :: u234 :: u235 :: u236 :: u237 :: u238 :: u239 :: u240 :: u241 :: u242 :: u243 :: u244 :: u245 :: u246 :: u247 :: u248 :: u249 :: u250 :: u251 :: u252 :: u253 :: u254 :: u255 :: u256 :: u257 :: u258 :: u259 :: u260 :: u261 :: u262 :: u263 :: u264 :: u265 :: u266 :: u267 :: u268 :: u269 :: u270 :: u271 :: u272 :: u273 :: u274 :: u275 :: u276 :: u277 :: u278 :: u279 :: u280 :: u281 :: u282 :: u283 :: u284 :: []).toArray, []⟩ W') := hexit
  have HW : Hid (∀ k, k < 12 → W.cell? ⟨bI, 18 + k, none⟩ = some (.int .u8 (wcv k))) := hIw
  have HC : Hid (∀ k, k < 12 → W.cell? ⟨bI, 30 + k, none⟩ = some (.int .u8 (cov k))) := hIc
  have h0 : Two bP bV W W (A14 age (upto (fun j => wcv j % 3) 0) (.pointer none)) (A12 (upto (fun j => cov j % 3) 0)) := Two.start nPV hP hV
  clear hexit hIw hIc hP hV
  have n1 : ¬ bP = bV := nPV
  have n2 : ¬ bV = bP := fun h => nPV h.symm
  have n3 : ¬ bP = bI := fun h => nIP h.symm
  have n4 : ¬ bV = bI := fun h => nIV h.symm
  conv => arg 2; arg 1; whnf
  go_loopw [12] (fun t w' => ∃ k : Nat, k ≤ 12 ∧ t = .int .i64 k ∧ Two bP bV W w' (A14 age (upto (fun j => wcv j % 3) k) (.pointer none)) (A12 (upto (fun j => cov j % 3) k))) (fun t _ => 12 - (intOf t).toNat)
  case atStart => exact ⟨0, Nat.zero_le _, rfl, h0⟩
  case round =>
    obtain ⟨k, hk, rfl, hr⟩ := hrel
    clear h0
    by_cases hlt : k < 12
    · have a1 := (hr.cell lI nIP nIV (18 + k)).trans (HW.out k hlt)
      have a2 := (hr.cell lI nIP nIV (30 + k)).trans (HC.out k hlt)
      have a3 := blk_cell hr.hx (A14_at age (upto (fun j => wcv j % 3) k) k hlt (.pointer none))
      have a4 := blk_cell hr.hy (A12_at (upto (fun j => cov j % 3) k) k hlt)
      have a5 := blk_frozen hr.hx (i := 1 + k)
      have a6 := blk_frozen hr.hy (i := k)
      obtain ⟨b1, b2⟩ := hw k
      obtain ⟨b3, b4⟩ := hc k
      have k0 : (0 : Int) ≤ k := by omega
      have k1 : (k : Int) < 12 := by omega
      have hs := (hr.setX nPV (1 + k) (.int .i64 (wcv k % 3))).setY nPV k (.int .i64 (cov k % 3))
      have HS : Hid (Two bP bV W ((wr.setCell ⟨bP, 1 + k, none⟩ (.int .i64 (wcv k % 3))).setCell ⟨bV, k, none⟩ (.int .i64 (cov k % 3))) (A14 age (upto (fun j => wcv j % 3) (k + 1)) (.pointer none)) (A12 (upto (fun j => cov j % 3) (k + 1)))) := by
        rw [A14_set _ _ _ hlt, A12_set _ _ hlt, upto_step (fun j => wcv j % 3) k, upto_step (fun j => cov j % 3) k] at hs
        exact hs
      clear hs
      go_wp2_with fail
      go_roundw
      case rel => exact ⟨k + 1, by omega, by go_num, HS.out⟩
      case measure => simp [intOf]; omega
    · have hk12 : k = 12 := by omega
      subst hk12
      go_wp2_with fail
      exact HX.out _ _ _ _ _ _ _ _ _ _ _ _ _ _ _ _ _ _ _ _ _ _ _ hr
end Go.Proofs.Ybulkuvq
