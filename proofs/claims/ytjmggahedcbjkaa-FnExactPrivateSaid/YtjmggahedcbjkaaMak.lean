/- New memory of FnExactPrivate: the zero values of the two keys and of the array of 9616 bytes, and the steps that lay them in new blocks. -/
import Derived.Test.YtjmggahedcbjkaaRows
import Derived.Test.YtjmggahedcbjkaaMem
import Derived.WalkKit
namespace Go.Proofs.Ytjmggahedcbjkaa
set_option linter.unusedVariables false
open Go.RowKit

/-- The cells of a type's zero value. -/
def zeroCells (i : TypeInfo) : Array Value := match i.zero with
  | some v => v.cells
  | none => #[]

noncomputable def Z41 : Array Value := zeroCells Try.t41
noncomputable def Z45 : Array Value := zeroCells Try.t45
noncomputable def Z43 : Array Value := zeroCells Try.t43
theorem z41_zero : Try.t41.zero = some (.agg Z41) := by kernel_rfl
theorem z45_zero : Try.t45.zero = some (.agg Z45) := by kernel_rfl
theorem z43_zero : Try.t43.zero = some (.agg Z43) := by kernel_rfl
theorem z41_size : Z41.size = 5153 := by kernel_rfl
theorem z45_size : Z45.size = 5136 := by kernel_rfl
theorem z43_size : Z43.size = 9616 := by kernel_rfl
theorem i41 : Try.prog.info? 41 = some Try.t41 := by kernel_rfl
theorem i45 : Try.prog.info? 45 = some Try.t45 := by kernel_rfl
theorem i43 : Try.prog.info? 43 = some Try.t43 := by kernel_rfl
theorem b41 : Try.prog.built 41 [] = some Z41 := by kernel_rfl

theorem zero_run {P : Program} {t : TypeId} {i : TypeInfo} {z : Value} (hi : P.info? t = some i) (hz : i.zero = some z) (w : World) : (zeroValue t).run P w = .ok z w := by
  simp [zeroValue, typeInfo, hi, hz]

theorem zero41 : ∃ Z : List Value, Z.length = 5153 ∧ ∀ w, (Instr.build 41 #[]).run Try.prog w = .ok (.agg Z.toArray) w :=
  ⟨Z41.toList, by rw [Array.length_toList]; exact z41_size, fun w => by rw [Array.toArray_toList]; exact run_build w 41 #[] Z41 b41⟩
theorem zero45 : ∃ Z : List Value, Z.length = 5136 ∧ ∀ w, (zeroValue 45).run Try.prog w = .ok (.agg Z.toArray) w :=
  ⟨Z45.toList, by rw [Array.length_toList]; exact z45_size, fun w => by rw [Array.toArray_toList]; exact zero_run i45 z45_zero w⟩
theorem zero43 : ∃ Z : List Value, Z.length = 9616 ∧ ∀ w, (zeroValue 43).run Try.prog w = .ok (.agg Z.toArray) w :=
  ⟨Z43.toList, by rw [Array.length_toList]; exact z43_size, fun w => by rw [Array.toArray_toList]; exact zero_run i43 z43_zero w⟩

section
variable {P : Program} {w : World} {ops : Array Oper} {rest : List Oper} {op : Oper} {a : Act} {Q : Exit → Act → World → Prop}

/-- A new variable. -/
theorem alloc_law (hgd : op.guard = none) (T : TypeId) (ho : op.op = .alloc T) (Z : List Value) (hz : ∀ w, (zeroValue T).run P w = .ok (.agg Z.toArray) w) (q : Nat) (hq : Hid (q = w.heap.size))
    (k : ∀ w', Hid (w' = w.alloc (.cells Z.toArray T)) → wpList P ops Q rest (a.put op.dst (.pointer (some ⟨q, 0, none⟩))) w') : wpList P ops Q (op :: rest) a w := by
  refine wpList_plain hgd fun K hK => ?_
  obtain rfl : q = w.heap.size := hq
  have hrun : (Instr.alloc T true (.tuple #[])).run P w = .ok (.pointer (some ⟨w.heap.size, 0, none⟩)) (w.alloc (.cells Z.toArray T)) := by
    simp [Instr.alloc, hz, newVar, newRow, Value.cells]
  unfold Oper.wp
  simp [execOp, ho, hrun, Result.andThen]
  exact hK _ _ (k _ rfl)

/-- A literal's value. -/
theorem build_law (hgd : op.guard = none) (T : TypeId) (ho : op.op = .build T #[]) (Z : List Value) (hz : ∀ w, (Instr.build T #[]).run P w = .ok (.agg Z.toArray) w)
    (k : wpList P ops Q rest (a.put op.dst (.agg Z.toArray)) w) : wpList P ops Q (op :: rest) a w := by
  refine wpList_plain hgd fun K hK => ?_
  unfold Oper.wp
  simp [execOp, ho, hz, Result.andThen]
  exact hK _ _ k

/-- A value laid in a new block. -/
theorem box_law (hgd : op.guard = none) (T : TypeId) (x : Operand) (ho : op.op = .box T x) (Z : List Value) (hx : a.eval x = .agg Z.toArray) (q : Nat) (hq : Hid (q = w.heap.size))
    (k : ∀ w', Hid (w' = w.alloc (.cells Z.toArray T)) → wpList P ops Q rest (a.put op.dst (.pointer (some ⟨q, 0, none⟩))) w') : wpList P ops Q (op :: rest) a w := by
  refine wpList_plain hgd fun K hK => ?_
  obtain rfl : q = w.heap.size := hq
  have hrun : (Instr.box T (.agg Z.toArray)).run P w = .ok (.pointer (some ⟨w.heap.size, 0, none⟩)) (w.alloc (.cells Z.toArray T)) := by
    simp [Instr.box, newVar, newRow, Value.cells]
  unfold Oper.wp
  simp [execOp, ho, hx, hrun, Result.andThen]
  exact hK _ _ (k _ rfl)

/-- 'make([]byte, n)' at a literal n. -/
theorem make_law (hgd : op.guard = none) (T E : TypeId) (n : Nat) (ho : op.op = .makeSlice T (.const (.int .i64 n)) (.const (.int .i64 n))) (i : TypeInfo) (z : Value) (ht : P.underlying T = some (.slice E)) (hi : P.info? E = some i) (hz : i.zero = some z)
    (hs : i.size = 1) (hb : i.bytes = 1) (hn : n ≤ 16777216) (q : Nat) (hq : Hid (q = w.heap.size))
    (k : ∀ (Z : List Value) w', Z.length = n → Hid (w' = w.alloc (.cells Z.toArray E)) → wpList P ops Q rest (a.put op.dst (.slice (some ⟨q, 0, none⟩) n n)) w') : wpList P ops Q (op :: rest) a w := by
  refine wpList_plain hgd fun K hK => ?_
  obtain rfl : q = w.heap.size := hq
  have hrun := run_make (P := P) w T E i z ht hi hz .i64 .i64 n n (by omega) (by omega) (by rw [hb]; omega) (by omega)
  rw [Int.toNat_natCast, hs, Nat.mul_one] at hrun
  have h2 := k (madeCells z.cells n).toList (w.alloc (.cells (madeCells z.cells n) E)) (by rw [Array.length_toList]; exact size_madeCells _ _) (show _ = _ by rw [Array.toArray_toList])
  unfold Oper.wp
  simp [execOp, ho, Act.eval, hrun, Result.andThen]
  exact hK _ _ h2
end

end Go.Proofs.Ytjmggahedcbjkaa
