import Derived.Test.YbulkuvqT38
import Derived.Test.YbulkuvqFill
namespace Go.Proofs.Ybulkuvq
open Go Go.RowKit
set_option linter.unusedVariables false

theorem hide {p : Prop} (h : p) : Hid p := h
def hA (s i j : Nat) : Nat := if s = 0 then 2 * j else 4 * i + 1
def hBx (s i j : Nat) : Nat := if s = 0 then 4 + 2 * j else 4 * i + 3
def hO (s i j : Nat) : Nat := if s = 0 then 2 + j else 2 * i + 1
def cv (s i j : Nat) : Int := if s = 0 then (i : Int) else (j : Int)
theorem C30_A (hal : Nat → Int) (opn : Nat → Bool) (dec : Nat → Int) (x y s : Nat) (hx : x < 2) (hy : y < 2) (hs : s < 2) :
    (C30 hal opn dec)[x * 12 + y * 6 + s * 3]? = some (.int .i64 0) ∧ (C30 hal opn dec)[x * 12 + y * 6 + s * 3 + 1]? = some (.int .u64 (hal (x * 4 + y * 2 + s))) ∧ (C30 hal opn dec)[x * 12 + y * 6 + s * 3 + 2]? = some (.int .i64 0) ∧
    (C30 hal opn dec)[24 + (x * 2 + y)]? = some (.bool (opn (x * 2 + y))) ∧ (C30 hal opn dec)[28 + s]? = some (.int .i64 (dec s % 3)) := by
  match x, hx, y, hy, s, hs with
  | 0, _, 0, _, 0, _ | 0, _, 0, _, 1, _ | 0, _, 1, _, 0, _ | 0, _, 1, _, 1, _ | 1, _, 0, _, 0, _ | 1, _, 0, _, 1, _ | 1, _, 1, _, 0, _ | 1, _, 1, _, 1, _ => exact ⟨rfl, rfl, rfl, rfl, rfl⟩
theorem Y_A (yz : Array Value) (hyz : yz.size = 184) (hal : Nat → Int) (opn : Nat → Bool) (dec : Nat → Int) (s i j : Nat) (hs : s < 2) (hi : i < 2) (hj : j < 2) :
    (yz ++ C30 hal opn dec)[offA s i j]? = some (.int .i64 0) ∧ (yz ++ C30 hal opn dec)[offA s i j + 1]? = some (.int .u64 (hal (hA s i j))) ∧ (yz ++ C30 hal opn dec)[offA s i j + 2]? = some (.int .i64 0) ∧
    (yz ++ C30 hal opn dec)[offB s i j]? = some (.int .i64 0) ∧ (yz ++ C30 hal opn dec)[offB s i j + 1]? = some (.int .u64 (hal (hBx s i j))) ∧ (yz ++ C30 hal opn dec)[offB s i j + 2]? = some (.int .i64 0) ∧
    (yz ++ C30 hal opn dec)[offO s i j]? = some (.bool (opn (hO s i j))) ∧ (yz ++ C30 hal opn dec)[212 + s]? = some (.int .i64 (dec s % 3)) := by
  have k : ∀ n m, n = 184 + m → (yz ++ C30 hal opn dec)[n]? = (C30 hal opn dec)[m]? := fun n m h => by rw [h, yz_get _ _ hyz]
  obtain rfl | rfl : s = 0 ∨ s = 1 := by omega
  · obtain ⟨a0, a1, a2, _, d⟩ := C30_A hal opn dec 0 j 0 (by decide) hj (by decide)
    obtain ⟨b0, b1, b2, o, _⟩ := C30_A hal opn dec 1 j 0 (by decide) hj (by decide)
    simp only [offA, offB, offO, hA, hBx, hO, if_true]
    rw [show 2 * j = 0 * 4 + j * 2 + 0 by omega, show 4 + (0 * 4 + j * 2 + 0) = 1 * 4 + j * 2 + 0 by omega, show 2 + j = 1 * 2 + j by omega]
    exact ⟨(k _ _ (by omega)).trans a0, (k _ _ (by omega)).trans a1, (k _ _ (by omega)).trans a2, (k _ _ (by omega)).trans b0, (k _ _ (by omega)).trans b1, (k _ _ (by omega)).trans b2, (k _ _ (by omega)).trans o, (k _ _ (by omega)).trans d⟩
  · obtain ⟨a0, a1, a2, _, d⟩ := C30_A hal opn dec i 0 1 hi (by decide) (by decide)
    obtain ⟨b0, b1, b2, o, _⟩ := C30_A hal opn dec i 1 1 hi (by decide) (by decide)
    simp only [offA, offB, offO, hA, hBx, hO, Nat.one_ne_zero, if_false]
    rw [show 4 * i + 1 = i * 4 + 0 * 2 + 1 by omega, show 4 * i + 3 = i * 4 + 1 * 2 + 1 by omega, show 2 * i + 1 = i * 2 + 1 by omega]
    exact ⟨(k _ _ (by omega)).trans a0, (k _ _ (by omega)).trans a1, (k _ _ (by omega)).trans a2, (k _ _ (by omega)).trans b0, (k _ _ (by omega)).trans b1, (k _ _ (by omega)).trans b2, (k _ _ (by omega)).trans o, (k _ _ (by omega)).trans d⟩

set_option maxRecDepth 1000000 in
set_option maxHeartbeats 8000000 in
theorem tail33 (hal : Nat → Int) (opn : Nat → Bool) (dec : Nat → Int) (age : Int) (wcv cov : Nat → Int) (med : Bool) (cu ac : Int) (s i j : Nat) (hs : s < 2) (hi : i < 2) (hj : j < 2) (inC : Array Value) (n17 : inC[17]? = some (.int .i64 age)) (n42 : inC[42]? = some (.bool med)) (n44 : inC[44]? = some (.int .u32 cu)) (n45 : inC[45]? = some (.int .u32 ac)) (yz : Array Value) (hyz : yz.size = 184) (hy : ∀ W : World, (Op.equalIn 9999 42 (.agg yz) (.agg yz)).run Yba.prog W = .ok true W) (mf : Option Addr) (hmf : mf.isSome = med) (B : Nat) (w0 W : World) (g : Below B w0 W) (oB : B ≤ W.heap.size) (cu0 : 0 ≤ cu) (cu1 : cu ≤ 4294967295) (ac0 : 0 ≤ ac) (ac1 : ac ≤ 4294967295) (bI bC bF bP bPB bV bVB bCh : Nat) (hI : W.heap[bI]? = some (.cells inC 28 (0, 0))) (hC : W.heap[bC]? = some (.cells (yz ++ C30 hal opn dec) 50 (0, 0))) (hF : W.heap[bF]? = some (.cells (yz ++ C30 hal opn dec) 50 (0, 0))) (hP : W.heap[bP]? = some (.cells (A14 age (fun j => wcv j % 3) (.pointer mf)) 54 (0, 0))) (hPB : W.heap[bPB]? = some (.cells (A14 age (fun j => wcv j % 3) (.pointer mf)) 54 (0, 0))) (hV : W.heap[bV]? = some (.cells (A12 (fun j => cov j % 3)) 30 (0, 0))) (hVB : W.heap[bVB]? = some (.cells (A12 (fun j => cov j % 3)) 30 (0, 0))) (hCh : W.heap[bCh]? = some (.cells #[.int .i64 i, .int .i64 j] 58 (0, 0))) (u0 u2 u7 u8 u9 u12 u18 u19 u20 u21 u22 u23 u24 u25 u26 u27 u28 u29 u30 u31 u32 u33 u34 u35 u36 u37 u38 u39 u40 u41 u42 u43 u44 u45 u46 u47 u48 u49 u50 u51 u52 u53 u54 u55 u56 u57 u58 u59 u60 u61 u62 u63 u64 u65 u66 u67 u68 u69 u70 u71 u72 u73 u74 u75 u76 u77 u78 u79 u80 u81 u82 u83 u84 u85 u86 u87 u88 u89 u90 u91 u92 u93 u94 u95 u96 u97 u98 u99 u100 u101 u102 u103 u104 u105 u106 u107 u108 u109 u110 u111 u112 u113 u114 u115 u116 u117 u118 u119 u120 u121 u122 u123 u124 u125 u126 u127 u128 u129 u130 u131 u132 u133 u134 u135 u136 u137 u138 u139 u140 u141 u142 u143 u144 u145 u146 u147 u148 u149 u150 u151 u152 u153 u154 u155 u156 u157 u158 u159 u160 u161 u162 u163 u164 u165 u166 u167 u168 u169 u170 u171 u172 u173 u174 u175 u176 u177 u178 u179 u180 u181 u182 u183 u184 u185 u186 u187 u188 u189 u190 u191 u192 u193 u194 u195 u196 u197 u198 u199 u200 u201 u202 u203 u204 u205 u206 u207 u208 u209 u210 u211 u212 u213 u214 u215 u216 u217 u218 u219 u220 u221 u222 u223 u224 u225 u226 u227 u228 u229 u230 u231 u232 u233 u234 u235 u236 u237 u238 u239 u240 u241 u242 u243 u244 u245 u246 u247 u248 u249 u250 u251 u252 u253 u254 u255 u256 u257 u258 u259 u260 u261 u262 u263 u264 u265 u266 u267 u268 u269 u270 u271 u272 u273 u274 u275 u276 u277 u278 u279 u280 u281 u282 u283 u284 : Value) (K : Act → World → Prop)
    (hK : ∀ (a : Act) (w : World), Code.wp Yba.prog (seqDrop 18 (Yba.f3.body.getD .skip)) (bodyPost Yba.prog Yba.f3 (fun e w' => e = .returned (.bool true) ∧ Below B w0 w')) a w → K a w) :
    Code.wp Yba.prog ((Yba.f3.body.bind (findReg 33)).getD .skip) (Exit.then K (bodyPost Yba.prog Yba.f3 (fun e w' => e = .returned (.bool true) ∧ Below B w0 w'))) ⟨(u0 :: .pointer (some ⟨bI, 0, none⟩) :: u2 :: .int .i64 s :: .int .i64 i :: .int .i64 j :: .pointer (some ⟨bC, 0, none⟩) :: u7 :: u8 :: u9 :: .pointer (some ⟨bP, 0, none⟩) :: .pointer (some ⟨bV, 0, none⟩) :: u12 :: .pointer mf :: .pointer (some ⟨bF, 0, none⟩) :: .pointer (some ⟨bPB, 0, none⟩) :: .pointer (some ⟨bVB, 0, none⟩) :: .pointer (some ⟨bCh, 0, none⟩) :: u18 :: u19 :: u20 :: u21 :: u22 :: u23 :: u24 :: u25 :: u26 :: u27 :: u28 :: u29 :: u30 :: u31 :: u32 :: u33 :: u34 :: u35 :: u36 :: u37 :: u38 :: u39 :: u40 :: u41 :: u42 :: u43 :: u44 :: u45 :: u46 :: u47 :: u48 :: u49 :: u50 :: u51 :: u52 :: u53 :: u54 :: u55 :: u56 :: u57 :: u58 :: u59 :: u60 :: u61 :: u62 :: u63 :: u64 :: u65 :: u66 :: u67 :: u68 :: u69 :: u70 :: u71 :: u72 :: u73 :: u74 :: u75 :: u76 :: u77 :: u78 :: u79 :: u80 :: u81 :: u82 :: u83 :: u84 :: u85 :: u86 :: u87 :: u88 :: u89 :: u90 :: u91 :: u92 :: u93 :: u94 :: u95 :: u96 :: u97 :: u98 :: u99 :: u100 :: u101 :: u102 :: u103 :: u104 :: u105 :: u106 :: u107 :: u108 :: u109 :: u110 :: u111 :: u112 :: u113 :: u114 :: u115 :: u116 :: u117 :: u118 :: u119 :: u120 :: u121 :: u122 :: u123 :: u124 :: u125 :: u126 :: u127 :: u128 :: u129 :: u130 :: u131 :: u132 :: u133 :: u134 :: u135 :: u136 :: u137 :: u138 :: u139 :: u140 :: u141 :: u142 :: u143 :: u144 :: u145 :: u146 :: u147 :: u148 :: u149 :: u150 :: u151 :: u152 :: u153 :: u154 :: u155 :: u156 :: u157 :: u158 :: u159 :: u160 :: u161 :: u162 :: u163 :: u164 :: u165 :: u166 :: u167 :: u168 :: u169 :: u170 :: u171 :: u172 :: u173 :: u174 :: u175 :: u176 :: u177 :: u178 :: u179 :: u180 :: u181 :: u182 :: u183 :: u184 :: u185 :: u186 :: u187 :: u188 :: u189 :: u190 :: u191 :: u192 :: u193 :: u194 :: u195 :: u196 :: u197 :: u198 :: u199 :: u200 :: u201 :: u202 :: u203 :: u204 :: u205 :: u206 :: u207 :: u208 :: u209 :: u210 :: u211 :: u212 :: u213 :: u214 :: u215 :: u216 :: u217 :: u218 :: u219 :: u220 :: u221 :: u222 :: u223 :: u224 :: u225 :: u226 :: u227 :: u228 :: u229 :: u230 :: u231 :: u232 :: u233 :: u234 :: u235 :: u236 :: u237 :: u238 :: u239 :: u240 :: u241 :: u242 :: u243 :: u244 :: u245 :: u246 :: u247 :: u248 :: u249 :: u250 :: u251 :: u252 :: u253 :: u254 :: u255 :: u256 :: u257 :: u258 :: u259 :: u260 :: u261 :: u262 :: u263 :: u264 :: u265 :: u266 :: u267 :: u268 :: u269 :: u270 :: u271 :: u272 :: u273 :: u274 :: u275 :: u276 :: u277 :: u278 :: u279 :: u280 :: u281 :: u282 :: u283 :: u284 :: []).toArray, []⟩ W := by
  have cs : W.cell? ⟨bCh, s, none⟩ = some (.int .i64 (cv s i j)) := by
    obtain rfl | rfl : s = 0 ∨ s = 1 := by omega
    · exact blk_cell hCh rfl
    · exact blk_cell hCh rfl
  have i44 := blk_cell hI n44
  have i45 := blk_cell hI n45
  have lI : bI < W.heap.size := (Array.getElem?_eq_some_iff.1 hI).1
  have lI1 : bI < W.heap.size + 1 := by omega
  have lC : bC < W.heap.size := (Array.getElem?_eq_some_iff.1 hC).1
  have lP : bP < W.heap.size := (Array.getElem?_eq_some_iff.1 hP).1
  have lV : bV < W.heap.size := (Array.getElem?_eq_some_iff.1 hV).1
  have hs0 : (0 : Int) ≤ s := by omega
  have hs1 : (s : Int) < 2 := by omega
  obtain ⟨v, hv⟩ : ∃ v, v = cv s i j := ⟨_, rfl⟩
  rw [← hv] at cs
  have HV : Hid (v = cv s i j) := hv
  clear hv
  have HK := hK
  clear hK
  conv => arg 2; whnf
  apply wp_region_lit
  go_wp2_with fail
  conv => arg 2; whnf
  go_wp2_with (go_at_call 4; refine (money _ (by first | exact cu0 | exact ac0 | decide) (by first | exact cu1 | exact ac1 | decide) _).mono ?_; rintro e w' ⟨rfl, rfl⟩)
  obtain hss | hss : s = 0 ∨ s = 1 := by omega
  · subst hss
    rw [show ((0 : Nat) : Int) = 0 from rfl]
    obtain ⟨c0, c1, c2, d0, d1, d2, o1, e1⟩ := Y_A yz hyz hal opn dec 0 i j (by decide) hi hj
    obtain ⟨a0, a1, a2, _, fd⟩ := C30_A hal opn dec 0 j 0 (by decide) hj (by decide)
    obtain ⟨b0, b1, b2, o2, _⟩ := C30_A hal opn dec 1 j 0 (by decide) hj (by decide)
    have eA : 0 * 4 + j * 2 + 0 = hA 0 i j := by simp [hA] <;> omega
    have eB : 1 * 4 + j * 2 + 0 = hBx 0 i j := by simp [hBx] <;> omega
    have eO : 1 * 2 + j = hO 0 i j := by simp [hO] <;> omega
    rw [eA] at a1
    rw [eB] at b1
    have o3 : (C30 hal opn dec)[24 + (1 * 2 + j)]? = some (.bool (opn (hO 0 i j))) := by rw [← eO]; exact o2
    refine (fill_0 bC (W.heap.size + 1 + 1 + 1 + 1 + 1 + 1 + 1 + 1 + 1) bP bV i j hi hj (hal (hA 0 i j)) (hal (hBx 0 i j)) (opn (hO 0 i j)) (dec 0 % 3) age mf cu ac (fun j => wcv j % 3) (fun j => cov j % 3) _ (by simp <;> omega) (by simp <;> omega) (by simp <;> omega) (by simp <;> omega) (by omega) (by omega) (by omega) _ _ _ _ _ _ _ _ _ _ _ _ _ _ _ _ _ (heap_new (by simp))
      (blk_cell (keep (by repeat (first | exact Below.refl _ _ | refine Below.drew ?_ | refine Below.alloc ?_ (by simp <;> omega) _ | refine Below.setCell ?_ (by simp <;> omega) _)) hC) c0) (blk_cell (keep (by repeat (first | exact Below.refl _ _ | refine Below.drew ?_ | refine Below.alloc ?_ (by simp <;> omega) _ | refine Below.setCell ?_ (by simp <;> omega) _)) hC) c1) (blk_cell (keep (by repeat (first | exact Below.refl _ _ | refine Below.drew ?_ | refine Below.alloc ?_ (by simp <;> omega) _ | refine Below.setCell ?_ (by simp <;> omega) _)) hC) c2) (blk_cell (keep (by repeat (first | exact Below.refl _ _ | refine Below.drew ?_ | refine Below.alloc ?_ (by simp <;> omega) _ | refine Below.setCell ?_ (by simp <;> omega) _)) hC) d0) (blk_cell (keep (by repeat (first | exact Below.refl _ _ | refine Below.drew ?_ | refine Below.alloc ?_ (by simp <;> omega) _ | refine Below.setCell ?_ (by simp <;> omega) _)) hC) d1) (blk_cell (keep (by repeat (first | exact Below.refl _ _ | refine Below.drew ?_ | refine Below.alloc ?_ (by simp <;> omega) _ | refine Below.setCell ?_ (by simp <;> omega) _)) hC) d2) (blk_cell (keep (by repeat (first | exact Below.refl _ _ | refine Below.drew ?_ | refine Below.alloc ?_ (by simp <;> omega) _ | refine Below.setCell ?_ (by simp <;> omega) _)) hC) o1) (blk_cell (keep (by repeat (first | exact Below.refl _ _ | refine Below.drew ?_ | refine Below.alloc ?_ (by simp <;> omega) _ | refine Below.setCell ?_ (by simp <;> omega) _)) hC) e1) (blk_cell (keep (by repeat (first | exact Below.refl _ _ | refine Below.drew ?_ | refine Below.alloc ?_ (by simp <;> omega) _ | refine Below.setCell ?_ (by simp <;> omega) _)) hP) rfl) (blk_cell (keep (by repeat (first | exact Below.refl _ _ | refine Below.drew ?_ | refine Below.alloc ?_ (by simp <;> omega) _ | refine Below.setCell ?_ (by simp <;> omega) _)) hP) rfl) (fun k hk => blk_cell (keep (by repeat (first | exact Below.refl _ _ | refine Below.drew ?_ | refine Below.alloc ?_ (by simp <;> omega) _ | refine Below.setCell ?_ (by simp <;> omega) _)) hP) (A14_at _ _ k hk _)) (fun k hk => blk_cell (keep (by repeat (first | exact Below.refl _ _ | refine Below.drew ?_ | refine Below.alloc ?_ (by simp <;> omega) _ | refine Below.setCell ?_ (by simp <;> omega) _)) hV) (A12_at _ k hk))).mono ?_
    rintro e w' ⟨rfl, hb⟩
    have gB : Below W.heap.size W w' := hb.toBelow (by omega) (by simp <;> omega) (by repeat (first | exact Below.refl _ _ | refine Below.drew ?_ | refine Below.alloc ?_ (by simp <;> omega) _ | refine Below.setCell ?_ (by simp <;> omega) _))
    have hCu := (hb.block (W.heap.size + 1) (by simp <;> omega) (by omega)).trans (heap_old (by simp) (heap_old (by simp) (heap_old (by simp) (heap_old (by simp) (heap_old (by simp) (heap_old (by simp) (heap_old (by simp) (heap_old (by simp) (heap_new (by simp))))))))))
    have hAr := (hb.block (W.heap.size + 1 + 1 + 1) (by simp <;> omega) (by omega)).trans (heap_old (by simp) (heap_old (by simp) (heap_old (by simp) (heap_old (by simp) (heap_old (by simp) (heap_old (by simp) (heap_new (by simp))))))))
    have hBB := hb.hb
    have hv : v = (i : Int) := HV.out
    subst hv
    have tt := tail38_0 hal opn dec age wcv cov med cu ac i j hi hj inC n17 n42 n44 n45 yz hyz hy mf hmf B w0 w' (g.trans (gB.mono oB)) (Nat.le_trans oB gB.size) bI bC bF bP bPB bV bVB (W.heap.size + 1) (W.heap.size + 1 + 1 + 1) (W.heap.size + 1 + 1 + 1 + 1 + 1 + 1 + 1 + 1 + 1) bCh ((i : Int) == 1) (opn (hO 0 i j)) (hal (hA 0 i j)) (hal (hBx 0 i j)) (dec 0 % 3) (keep gB hI) (keep gB hC) (keep gB hF) (keep gB hP) (keep gB hPB) (keep gB hV) (keep gB hVB) hCu hAr hBB (keep gB hCh) fd a0 a1 a2 b0 b1 b2 o3
    clear hb
    have TT := hide tt
    clear tt
    go_upto_region 38 with fail
    exact TT.out _ _ _ _ _ _ _ _ _ _ _ _ _ _ _ _ _ _ _ _ _ _ _ _ _ _ _ _ _ _ _ _ _ _ _ _ _ _ _ _ _ _ _ _ _ _ _ _ _ _ _ _ _ _ _ _ _ _ _ _ _ _ _ _ _ _ _ _ _ _ _ _ _ _ _ _ _ _ _ _ _ _ _ _ _ _ _ _ _ _ _ _ _ _ _ _ _ _ _ _ _ _ _ _ _ _ _ _ _ _ _ _ _ _ _ _ _ _ _ _ _ _ _ _ _ _ _ _ _ _ _ _ _ _ _ _ _ _ _ _ _ _ _ _ _ _ _ _ _ _ _ _ _ _ _ _ _ _ _ _ _ _ _ _ _ _ _ _ _ _ _ _ _ _ _ _ _ _ _ _ _ _ _ _ _ _ _ _ _ _ _ _ _ _ _ _ _ _ _ _ _ _ _ _ _ _ _ _ _ _ _ _ _ _ _ _ _ _ _ _ _ _ _ _ _ _ _ _ _ _ _ _ _ _ _ _ _ _ _ _ _ _ _ _ _ _ _ _ _ _ _ _ _ _ _ _ _ _ _ _ _ _ _ _ _ _ _ _ _ _ _ _ (by assumption)
  · subst hss
    rw [show ((1 : Nat) : Int) = 1 from rfl]
    obtain ⟨c0, c1, c2, d0, d1, d2, o1, e1⟩ := Y_A yz hyz hal opn dec 1 i j (by decide) hi hj
    obtain ⟨a0, a1, a2, _, fd⟩ := C30_A hal opn dec i 0 1 hi (by decide) (by decide)
    obtain ⟨b0, b1, b2, o2, _⟩ := C30_A hal opn dec i 1 1 hi (by decide) (by decide)
    have eA : i * 4 + 0 * 2 + 1 = hA 1 i j := by simp [hA] <;> omega
    have eB : i * 4 + 1 * 2 + 1 = hBx 1 i j := by simp [hBx] <;> omega
    have eO : i * 2 + 1 = hO 1 i j := by simp [hO] <;> omega
    rw [eA] at a1
    rw [eB] at b1
    have o3 : (C30 hal opn dec)[24 + (i * 2 + 1)]? = some (.bool (opn (hO 1 i j))) := by rw [← eO]; exact o2
    refine (fill_1 bC (W.heap.size + 1 + 1 + 1 + 1 + 1 + 1 + 1 + 1 + 1) bP bV i j hi hj (hal (hA 1 i j)) (hal (hBx 1 i j)) (opn (hO 1 i j)) (dec 1 % 3) age mf cu ac (fun j => wcv j % 3) (fun j => cov j % 3) _ (by simp <;> omega) (by simp <;> omega) (by simp <;> omega) (by simp <;> omega) (by omega) (by omega) (by omega) _ _ _ _ _ _ _ _ _ _ _ _ _ _ _ _ _ (heap_new (by simp))
      (blk_cell (keep (by repeat (first | exact Below.refl _ _ | refine Below.drew ?_ | refine Below.alloc ?_ (by simp <;> omega) _ | refine Below.setCell ?_ (by simp <;> omega) _)) hC) c0) (blk_cell (keep (by repeat (first | exact Below.refl _ _ | refine Below.drew ?_ | refine Below.alloc ?_ (by simp <;> omega) _ | refine Below.setCell ?_ (by simp <;> omega) _)) hC) c1) (blk_cell (keep (by repeat (first | exact Below.refl _ _ | refine Below.drew ?_ | refine Below.alloc ?_ (by simp <;> omega) _ | refine Below.setCell ?_ (by simp <;> omega) _)) hC) c2) (blk_cell (keep (by repeat (first | exact Below.refl _ _ | refine Below.drew ?_ | refine Below.alloc ?_ (by simp <;> omega) _ | refine Below.setCell ?_ (by simp <;> omega) _)) hC) d0) (blk_cell (keep (by repeat (first | exact Below.refl _ _ | refine Below.drew ?_ | refine Below.alloc ?_ (by simp <;> omega) _ | refine Below.setCell ?_ (by simp <;> omega) _)) hC) d1) (blk_cell (keep (by repeat (first | exact Below.refl _ _ | refine Below.drew ?_ | refine Below.alloc ?_ (by simp <;> omega) _ | refine Below.setCell ?_ (by simp <;> omega) _)) hC) d2) (blk_cell (keep (by repeat (first | exact Below.refl _ _ | refine Below.drew ?_ | refine Below.alloc ?_ (by simp <;> omega) _ | refine Below.setCell ?_ (by simp <;> omega) _)) hC) o1) (blk_cell (keep (by repeat (first | exact Below.refl _ _ | refine Below.drew ?_ | refine Below.alloc ?_ (by simp <;> omega) _ | refine Below.setCell ?_ (by simp <;> omega) _)) hC) e1) (blk_cell (keep (by repeat (first | exact Below.refl _ _ | refine Below.drew ?_ | refine Below.alloc ?_ (by simp <;> omega) _ | refine Below.setCell ?_ (by simp <;> omega) _)) hP) rfl) (blk_cell (keep (by repeat (first | exact Below.refl _ _ | refine Below.drew ?_ | refine Below.alloc ?_ (by simp <;> omega) _ | refine Below.setCell ?_ (by simp <;> omega) _)) hP) rfl) (fun k hk => blk_cell (keep (by repeat (first | exact Below.refl _ _ | refine Below.drew ?_ | refine Below.alloc ?_ (by simp <;> omega) _ | refine Below.setCell ?_ (by simp <;> omega) _)) hP) (A14_at _ _ k hk _)) (fun k hk => blk_cell (keep (by repeat (first | exact Below.refl _ _ | refine Below.drew ?_ | refine Below.alloc ?_ (by simp <;> omega) _ | refine Below.setCell ?_ (by simp <;> omega) _)) hV) (A12_at _ k hk))).mono ?_
    rintro e w' ⟨rfl, hb⟩
    have gB : Below W.heap.size W w' := hb.toBelow (by omega) (by simp <;> omega) (by repeat (first | exact Below.refl _ _ | refine Below.drew ?_ | refine Below.alloc ?_ (by simp <;> omega) _ | refine Below.setCell ?_ (by simp <;> omega) _))
    have hCu := (hb.block (W.heap.size + 1) (by simp <;> omega) (by omega)).trans (heap_old (by simp) (heap_old (by simp) (heap_old (by simp) (heap_old (by simp) (heap_old (by simp) (heap_old (by simp) (heap_old (by simp) (heap_old (by simp) (heap_new (by simp))))))))))
    have hAr := (hb.block (W.heap.size + 1 + 1 + 1) (by simp <;> omega) (by omega)).trans (heap_old (by simp) (heap_old (by simp) (heap_old (by simp) (heap_old (by simp) (heap_old (by simp) (heap_old (by simp) (heap_new (by simp))))))))
    have hBB := hb.hb
    have hv : v = (j : Int) := HV.out
    subst hv
    have tt := tail38_1 hal opn dec age wcv cov med cu ac i j hi hj inC n17 n42 n44 n45 yz hyz hy mf hmf B w0 w' (g.trans (gB.mono oB)) (Nat.le_trans oB gB.size) bI bC bF bP bPB bV bVB (W.heap.size + 1) (W.heap.size + 1 + 1 + 1) (W.heap.size + 1 + 1 + 1 + 1 + 1 + 1 + 1 + 1 + 1) bCh ((j : Int) == 1) (opn (hO 1 i j)) (hal (hA 1 i j)) (hal (hBx 1 i j)) (dec 1 % 3) (keep gB hI) (keep gB hC) (keep gB hF) (keep gB hP) (keep gB hPB) (keep gB hV) (keep gB hVB) hCu hAr hBB (keep gB hCh) fd a0 a1 a2 b0 b1 b2 o3
    clear hb
    have TT := hide tt
    clear tt
    go_upto_region 38 with fail
    exact TT.out _ _ _ _ _ _ _ _ _ _ _ _ _ _ _ _ _ _ _ _ _ _ _ _ _ _ _ _ _ _ _ _ _ _ _ _ _ _ _ _ _ _ _ _ _ _ _ _ _ _ _ _ _ _ _ _ _ _ _ _ _ _ _ _ _ _ _ _ _ _ _ _ _ _ _ _ _ _ _ _ _ _ _ _ _ _ _ _ _ _ _ _ _ _ _ _ _ _ _ _ _ _ _ _ _ _ _ _ _ _ _ _ _ _ _ _ _ _ _ _ _ _ _ _ _ _ _ _ _ _ _ _ _ _ _ _ _ _ _ _ _ _ _ _ _ _ _ _ _ _ _ _ _ _ _ _ _ _ _ _ _ _ _ _ _ _ _ _ _ _ _ _ _ _ _ _ _ _ _ _ _ _ _ _ _ _ _ _ _ _ _ _ _ _ _ _ _ _ _ _ _ _ _ _ _ _ _ _ _ _ _ _ _ _ _ _ _ _ _ _ _ _ _ _ _ _ _ _ _ _ _ _ _ _ _ _ _ _ _ _ _ _ _ _ _ _ _ _ _ _ _ _ _ _ _ _ _ _ _ _ _ _ _ _ _ _ _ _ _ _ _ _ (by assumption)
end Go.Proofs.Ybulkuvq
