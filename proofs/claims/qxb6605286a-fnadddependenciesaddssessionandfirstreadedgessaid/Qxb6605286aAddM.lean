/-
  What the law of addDependencies asks of arrays and structs: '!=' of like values.
-/
import Derived.Test.Qxb6605286aRows
import Derived.Test.Qxb6605286aMem2
import Derived.Laws.StructEq
import Derived.ChangeKeysEq
import Derived.Below
import Derived.BigQuiet
namespace Go.Proofs.Qxb6605286a
open Go.RowKit

theorem guard25 : Try.prog.eqGuardType Try.prog.depth 25 = false := by kernel_rfl
theorem guard45 : Try.prog.eqGuardType Try.prog.depth 45 = false := by kernel_rfl
theorem held45 : Try.prog.stoodInHeld 45 = false := by kernel_rfl
theorem plain21 : Try.prog.plainKey 21 = true := by kernel_rfl
theorem plain2 : Try.prog.plainKey 2 = true := by kernel_rfl
theorem plain3 : Try.prog.plainKey 3 = true := by kernel_rfl
theorem fields45 : (Try.prog.fieldsOf 45).toList.map (fun f => (f.name, f.type, f.offset)) = [("Kind", 3, 0), ("Key", 2, 1), ("Value", 2, 2), ("Via", 21, 3)] := by kernel_rfl
theorem cellsof21 : Try.prog.cellsOf 21 = 1 := by kernel_rfl
theorem under45 : Try.prog.underlying 45 = some (.struct (Try.prog.fieldsOf 45)) := by kernel_rfl
theorem neq45 (w : World) (a b c d : Int) : (binOp .neq 45 (.agg #[.int .i64 a, .int .i64 b, .int .i64 c, .int .i32 d]) (.agg #[.int .i64 a, .int .i64 b, .int .i64 c, .int .i32 d])).run Try.prog w = .ok (.bool false) w := by
  rw [run_neq_struct, run_equalIn_struct w 9999 45 _ _ under45 held45]
  have hf := fields45
  generalize (Try.prog.fieldsOf 45).toList = fs at hf ⊢
  simp only [List.map_eq_cons_iff, List.map_eq_nil_iff, Prod.mk.injEq] at hf
  obtain ⟨f0, _, rfl, ⟨n0, t0, o0⟩, f1, _, rfl, ⟨n1, t1, o1⟩, f2, _, rfl, ⟨n2, t2, o2⟩, f3, _, rfl, ⟨n3, t3, o3⟩, rfl⟩ := hf
  have p0 : (part 3 #[.int .i64 a, .int .i64 b, .int .i64 c, .int .i32 d] 0).run Try.prog w = .ok (.int .i64 a) w := run_part_plain w plain3 rfl
  have p1 : (part 2 #[.int .i64 a, .int .i64 b, .int .i64 c, .int .i32 d] 1).run Try.prog w = .ok (.int .i64 b) w := run_part_plain w plain2 rfl
  have p2 : (part 2 #[.int .i64 a, .int .i64 b, .int .i64 c, .int .i32 d] 2).run Try.prog w = .ok (.int .i64 c) w := run_part_plain w plain2 rfl
  have p3 : (part 21 #[.int .i64 a, .int .i64 b, .int .i64 c, .int .i32 d] 3).run Try.prog w = .ok (.int .i32 d) w := run_part_plain w plain21 rfl
  have q0 := fun x => run_equalIn_int (P := Try.prog) w 9998 3 .i64 .i64 x x Try.underlying3
  have q1 := fun x => run_equalIn_int (P := Try.prog) w 9998 2 .i64 .i64 x x Try.underlying2
  have q3 := fun x => run_equalIn_int (P := Try.prog) w 9998 21 .i32 .i32 x x Try.underlying21
  simp [Op.eqFields, n0, n1, n2, n3, t0, t1, t2, t3, o0, o1, o2, o3, p0, p1, p2, p3, q0, q1, q3, Result.andThen]
theorem info21x : ∃ i, Try.prog.info? 21 = some i := info_of_underlying Try.underlying21
theorem neq25 (w : World) (a b c : Int) : (binOp .neq 25 (.agg #[.int .i32 a, .int .i32 b, .int .i32 c]) (.agg #[.int .i32 a, .int .i32 b, .int .i32 c])).run Try.prog w = .ok (.bool false) w := by
  obtain ⟨i, hi⟩ := info21x
  rw [run_neq_struct, run_equalIn_array w 9999 _ _ Try.underlying25 hi]
  have p0 : (part 21 #[.int .i32 a, .int .i32 b, .int .i32 c] 0).run Try.prog w = .ok (.int .i32 a) w := run_part_plain w plain21 rfl
  have p1 : (part 21 #[.int .i32 a, .int .i32 b, .int .i32 c] 1).run Try.prog w = .ok (.int .i32 b) w := run_part_plain w plain21 rfl
  have p2 : (part 21 #[.int .i32 a, .int .i32 b, .int .i32 c] 2).run Try.prog w = .ok (.int .i32 c) w := run_part_plain w plain21 rfl
  have q3 := fun x => run_equalIn_int (P := Try.prog) w 9998 21 .i32 .i32 x x Try.underlying21
  simp [Op.eqItems, List.range, List.range.loop, cellsof21, p0, p1, p2, q3, Result.andThen]
end Go.Proofs.Qxb6605286a
