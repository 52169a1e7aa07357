/- Laws over bytes in arrays and rows; own work. -/
import Derived.Test.Qxb6612263aModsRows
import Derived.WalkKit
import Derived.WalkSpells
import Derived.WalkLawsBesides
import Derived.Deep.QuietTactic
import Derived.BigQuiet
import Derived.Stop.BytesEq
import Derived.Deep.MidRow
import Derived.Deep.AppendLies
import Derived.ArgAppend
import Derived.Laws.CopyOwn
namespace Go.Proofs.Qxb6612263aMods
open Go.RowKit
open Extern.Stop (cell)

theorem info39 : (Trym.prog.info? 39).map (·.size) = some 8 := by kernel_rfl

theorem size5 (w : World) : (sizeOf 5).run Trym.prog w = .ok 1 w := by kernel_rfl

theorem neq39 (xs ys : List UInt8) (hx : xs.length = 8) (hy : ys.length = 8) (w : World) :
    (binOp .neq 39 (.agg (xs.map cell).toArray) (.agg (ys.map cell).toArray)).run Trym.prog w = .ok (.bool (!(xs == ys))) w := by
  rw [run_neq_struct, run_equalIn_bytes w 9998 39 5 8 Trym.underlying39 Trym.underlying5 size5 xs ys hx hy]
  rfl

theorem wpQuiet_load_mid {P : Program} {ops : Array Oper} {C : World → Prop} {Q : Act → Prop} {o : Oper} {a : Act} {rest : List Oper} (ty : TypeId) (x : Operand) (ho : o.op = .load ty x)
    (b off : Nat) (hx : a.eval x = .pointer (some ⟨b, off, none⟩)) (cs : List Value) (d : TypeDesc) (hc : ∀ w, C w → w.rangeAt b off cs)
    (hu : P.underlying ty = some d) (hd : d.isRow = true) (hi : (P.info? ty).map (·.size) = some cs.length) (hw : Region.wanted o (yielded ops a.tmps) = true)
    (h : wpQuiet P ops C Q rest (a.put o.dst (.agg cs.toArray))) : wpQuiet P ops C Q (o :: rest) a := by
  refine BigFrame.wpQuiet_want hw fun K hK => ⟨.agg cs.toArray, fun w hC => ?_, hK _ h⟩
  unfold Oper.quietAt execOp
  simp only [ho, hx, Instr.loadAt, Instr.sureAddr, Sem.run_bind, Sem.run_pure, Result.andThen_ok, run_loadVar_mid w b off ty cs d (hc w hC) hu hd hi]
  exact ⟨rfl, rfl⟩

theorem rangeAt_drewN {w : World} {b o n : Nat} {cs : List Value} (h : w.rangeAt b o cs) : (w.drewN n).rangeAt b o cs := fun j v hv => by
  simpa using h j v hv

theorem rangeAt_new (w : World) (cs : List Value) (t : TypeId) : (w.alloc (.cells cs.toArray t)).rangeAt w.heap.size 0 cs := by
  have := World.rangeAt_of_block (heap_alloc_new w (.cells cs.toArray t)) 0 cs.length
  simpa using this

end Go.Proofs.Qxb6612263aMods
