import Derived.Test.YbulkuskRows
import Derived.WalkKit
import Derived.Laws.LoneSync
import Derived.Laws.Externs
import Derived.Laws.Entries
namespace Go.Proofs.Ybulkusk.Law
open Go

section
variable {P : Program} {f : FuncId} {fn : Func}
theorem run_call_loadptr (hf : P.funcs[f]? = some fn) (hname : (fn.name == "runtime.NumGoroutine") = false) (hb : fn.body.isNone = true) (hn : Extern.findNext fn = none)
    (he : Extern.find fn = some (Extern.Atomic.loadT .ptr)) {a : Addr} {x : Option Addr} {w : World} (hc : w.cell? a = some (.pointer x)) :
    (callFunc f #[.pointer (some a)]).run P w = .ok (.value (.pointer x)) w := by
  rw [run_callFunc_extern hf hname hb hn he]
  change (Sem.run P (do Extern.Atomic.read .ptr (← asAddr (.pointer (some a)))) w).andThen _ = _
  simp [Extern.Atomic.read, asAddr, hc, Result.andThen]

theorem run_same (x : Option Addr) (w : World) : (samePointer x x).run P w = .ok true w := by
  cases x with
  | none => simp [samePointer]
  | some a => simp [samePointer, sameAddr]

theorem run_call_casptr (hf : P.funcs[f]? = some fn) (hname : (fn.name == "runtime.NumGoroutine") = false) (hb : fn.body.isNone = true) (hn : Extern.findNext fn = none)
    (he : Extern.find fn = some (Extern.Atomic.casT .ptr)) {a : Addr} {x y : Option Addr} {w : World} (hc : w.cell? a = some (.pointer x)) (hz : w.frozen? a = false) :
    (callFunc f #[.pointer (some a), .pointer x, .pointer y]).run P w = .ok (.value (.bool true)) (w.setCell a (.pointer y)) := by
  rw [run_callFunc_extern hf hname hb hn he]
  change (Sem.run P (do
    let a' ← asAddr (.pointer (some a))
    if ← Extern.Atomic.touchesFrozen a' then unsupported _
    let eq ← match Extern.Atomic.T.ptr, ← Extern.Atomic.read .ptr a', Value.pointer x with
      | _, .int _ x, .int _ y => pure (x == y)
      | .ptr, .pointer x, .pointer y => samePointer x y
      | .int _, .pointer (some _), .int _ 0 | .int _, .int _ 0, .pointer (some _) => pure false
      | .int _, .pointer (some _), _ | .int _, _, .pointer (some _) => unsupported .addressObserved
      | _, _, _ => stuck _
    if eq then store a' (.pointer y) .atomic
    pure (Value.bool eq)) w).andThen _ = _
  have hs := run_same (P := P) x w
  simp [Extern.Atomic.touchesFrozen, Extern.Atomic.read, asAddr, viewAt, World.shape?_isSome_of_cell? hc, hc, hz, hs, run_store P w a (.pointer y) .atomic rfl, Result.andThen]

theorem run_call_update (hf : P.funcs[f]? = some fn) (hname : (fn.name == "runtime.NumGoroutine") = false) (hb : fn.body.isNone = true) (hn : Extern.findNext fn = none) (k : IntKind) (op : IntKind → Int → Int → Sem Value)
    (he : Extern.find fn = some (Extern.Atomic.update op k false)) {a : Addr} {x y s : Int} {w : World} (hc : w.cell? a = some (.int k x)) (hz : w.frozen? a = false)
    (hs : (op k x y).run P w = .ok (.int k s) w) :
    (callFunc f #[.pointer (some a), .int k y]).run P w = .ok (.value (.int k x)) (w.setCell a (.int k s)) := by
  rw [run_callFunc_extern hf hname hb hn he]
  change (Sem.run P (do
    let a' ← asAddr (.pointer (some a))
    let old ← Extern.Atomic.read (.int k) a'
    let new ← op k (← asInt old) (← asInt (.int k y))
    store a' new .atomic
    pure (if false = true then new else old)) w).andThen _ = _
  simp [Extern.Atomic.read, asAddr, asInt, asIntOf, hc, hz, hs, run_store P w a (.int k s) .atomic rfl, Result.andThen]
end
theorem conv_nil_to (w : World) : (convert 36 60 (.pointer none)).run Yba.prog w = .ok (.pointer none) w := by kernel_rfl
theorem conv_nil_from (w : World) : (convert 60 36 (.pointer none)).run Yba.prog w = .ok (.pointer none) w := by kernel_rfl

theorem size56 : ∃ i, Yba.prog.info? 56 = some i ∧ i.size ≠ 0 := by
  have h : (Yba.prog.info? 56).map (fun i => decide (i.size ≠ 0)) = some true := by kernel_rfl
  obtain ⟨i, hi, hz⟩ := Option.map_eq_some_iff.1 h
  exact ⟨i, hi, by simpa using hz⟩

theorem conv_to (b : Nat) (w : World) (hsh : w.shape? b = some (56, 7)) :
    (convert 36 60 (.pointer (some ⟨b, 0, none⟩))).run Yba.prog w = .ok (.pointer (some ⟨b, 0, none⟩)) w := by
  obtain ⟨i, hi, hz⟩ := size56
  simp only [convert, Sem.run_bind, run_underlying Yba.underlying36, run_underlying Yba.underlying60, Result.andThen]
  change Sem.run Yba.prog (bind (underlying 36) _) w = _
  simp [run_underlying Yba.underlying36, run_underlying Yba.underlying60, Conv.seenAt, viewAt, cellsIn, hsh, sizeOf, typeInfo, hi, hz]
theorem lies56 : liesAt Yba.prog Yba.prog.depth 56 (7 / Yba.prog.cellsOf 56) 0 56 1 = true := by kernel_rfl
theorem conv_from (b : Nat) (w : World) (hsh : w.shape? b = some (56, 7)) :
    (convert 60 36 (.pointer (some ⟨b, 0, none⟩))).run Yba.prog w = .ok (.pointer (some ⟨b, 0, none⟩)) w := by
  obtain ⟨i, hi, hz⟩ := size56
  have hl := lies56
  simp only [convert, Sem.run_bind, run_underlying Yba.underlying36, run_underlying Yba.underlying60, Result.andThen]
  change Sem.run Yba.prog (bind (underlying 60) _) w = _
  simp [run_underlying Yba.underlying60, run_underlying Yba.underlying36, Conv.seenAt, viewAt, variablesAt, hsh, sizeOf, typeInfo, hi, hz, hl]
end Go.Proofs.Ybulkusk.Law
