/- The whole record loaded out of a variable of the call's own: by one rule. -/
import Derived.Test.Qxb6603959aRec
namespace Go.Proofs.Qxb6603959a
open Go.RowKit

theorem row_new (w : World) (cs : Array Value) (T : TypeId) : (w.alloc (.cells cs T)).rowIs w.heap.size T cs.size (fun i => cs[i]?.getD undef) :=
  World.rowIs_alloc w cs T _ (fun i hi => by simp [hi])
theorem range_of_row {W : World} {b : Nat} {T : TypeId} {cs : Array Value} (hr : W.rowIs b T cs.size (fun i => cs[i]?.getD undef)) : W.rangeAt b 0 cs.toList := fun j v hv => by
  have hj : j < cs.size := by simpa using (List.getElem?_eq_some_iff.1 hv).1
  rw [Nat.zero_add, hr.cell hj]
  simp at hv
  simp [hv]
theorem load25_new (w : World) (cs : Array Value) (h : cs.size = 21) : (LoadS 25 (.pointer (some ⟨w.heap.size, 0, none⟩))).run Try.prog (w.alloc (.cells cs 25)) = .ok (.agg cs) (w.alloc (.cells cs 25)) := by
  have := load25 w.heap.size cs.toList (w.alloc (.cells cs 25)) (by simpa using h) (range_of_row (row_new w cs 25))
  simpa using this
theorem load25_old (w : World) (cs : Array Value) (o : Obj) (h : cs.size = 21) : (LoadS 25 (.pointer (some ⟨w.heap.size, 0, none⟩))).run Try.prog ((w.alloc (.cells cs 25)).alloc o) = .ok (.agg cs) ((w.alloc (.cells cs 25)).alloc o) := by
  have := load25 w.heap.size cs.toList ((w.alloc (.cells cs 25)).alloc o) (by simpa using h) (range_of_row ((row_new w cs 25).alloc o))
  simpa using this
theorem load30_new (w : World) (cs : Array Value) (h : cs.size = 21) : (LoadS 30 (.pointer (some ⟨w.heap.size, 0, none⟩))).run Try.prog (w.alloc (.cells cs 30)) = .ok (.agg cs) (w.alloc (.cells cs 30)) := by
  have := load30 w.heap.size cs.toList (w.alloc (.cells cs 30)) (by simpa using h) (range_of_row (row_new w cs 30))
  simpa using this
theorem load30_old (w : World) (cs : Array Value) (o : Obj) (h : cs.size = 21) : (LoadS 30 (.pointer (some ⟨w.heap.size, 0, none⟩))).run Try.prog ((w.alloc (.cells cs 30)).alloc o) = .ok (.agg cs) ((w.alloc (.cells cs 30)).alloc o) := by
  have := load30 w.heap.size cs.toList ((w.alloc (.cells cs 30)).alloc o) (by simpa using h) (range_of_row ((row_new w cs 30).alloc o))
  simpa using this
end Go.Proofs.Qxb6603959a
