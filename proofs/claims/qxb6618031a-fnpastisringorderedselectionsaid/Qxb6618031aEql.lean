/- '==' at [3]uint64 (type 28) and at ring.ID (type 30). -/
import Derived.Test.Qxb6618031aAsc
import Derived.Laws.StructEq
import Derived.ChangeKeysEq
namespace Go.Proofs.Qxb6618031a
open Go.RowKit Go.Sort

def eq3 (x y : W3) : Bool := x.1 == y.1 && (x.2.1 == y.2.1 && x.2.2 == y.2.2)
theorem eq3_iff (x y : W3) : eq3 x y = true ↔ x = y := by
  obtain ⟨a, b, c⟩ := x
  obtain ⟨d, e, f⟩ := y
  simp [eq3]
theorem eq3_refl (x : W3) : eq3 x x = true := (eq3_iff x x).2 rfl
theorem eq3_false {x y : W3} (h : x ≠ y) : eq3 x y = false := by
  cases e : eq3 x y with
  | false => rfl
  | true => exact absurd ((eq3_iff x y).1 e) h
theorem info27 : (Try.prog.info? 27).isSome = true := by kernel_rfl
theorem cells27 : Try.prog.cellsOf 27 = 1 := by kernel_rfl
theorem run_part27 (xs : Array Value) (k : Nat) (a : Int) (h : xs[k]? = some (.int .u64 a)) (w : World) : (part 27 xs k).run Try.prog w = .ok (.int .u64 a) w := by
  have h2 := Try.isAgg27
  simp [part, h, h2]

theorem equalIn28 (d : Nat) (x y : W3) (w : World) :
    (Op.equalIn (d + 2) 28 (.agg #[.int .u64 x.1, .int .u64 x.2.1, .int .u64 x.2.2]) (.agg #[.int .u64 y.1, .int .u64 y.2.1, .int .u64 y.2.2])).run Try.prog w = .ok (eq3 x y) w := by
  obtain ⟨i, hi⟩ := Option.isSome_iff_exists.1 info27
  rw [run_equalIn_array w (d + 1) _ _ Try.underlying28 hi, cells27]
  simp only [List.range_succ, List.range_zero, List.nil_append, List.cons_append, Op.eqItems, Sem.run_bind]
  rw [run_part27 _ _ x.1 (by simp), Result.andThen_ok, run_part27 _ _ y.1 (by simp), Result.andThen_ok, run_equalIn_int w d 27 .u64 .u64 _ _ Try.underlying27, Result.andThen_ok]
  unfold eq3
  by_cases h1 : x.1 = y.1
  · rw [if_neg (by simp [h1])]
    simp only [Sem.run_bind]
    rw [run_part27 _ _ x.2.1 (by simp), Result.andThen_ok, run_part27 _ _ y.2.1 (by simp), Result.andThen_ok, run_equalIn_int w d 27 .u64 .u64 _ _ Try.underlying27, Result.andThen_ok]
    by_cases h2 : x.2.1 = y.2.1
    · rw [if_neg (by simp [h2])]
      simp only [Sem.run_bind]
      rw [run_part27 _ _ x.2.2 (by simp), Result.andThen_ok, run_part27 _ _ y.2.2 (by simp), Result.andThen_ok, run_equalIn_int w d 27 .u64 .u64 _ _ Try.underlying27, Result.andThen_ok]
      by_cases h3 : x.2.2 = y.2.2
      · rw [if_neg (by simp [h3])]
        simp [h1, h2, h3]
      · rw [if_pos (by simp [h3])]
        simp [h3]
    · rw [if_pos (by simp [h2])]
      simp [h2]
  · rw [if_pos (by simp [h1])]
    simp [h1]

theorem eql28 (x y : W3) (w : World) :
    (binOp .eql 28 (.agg #[.int .u64 x.1, .int .u64 x.2.1, .int .u64 x.2.2]) (.agg #[.int .u64 y.1, .int .u64 y.2.1, .int .u64 y.2.2])).run Try.prog w = .ok (.bool (eq3 x y)) w := by
  rw [run_eql_struct, show (10000 : Nat) = 9998 + 2 from rfl, equalIn28]
  rfl

theorem eql30 (x y : W3) (w : World) :
    (binOp .eql 30 (.agg #[.int .u64 x.1, .int .u64 x.2.1, .int .u64 x.2.2]) (.agg #[.int .u64 y.1, .int .u64 y.2.1, .int .u64 y.2.2])).run Try.prog w = .ok (.bool (eq3 x y)) w := by
  have hS : Try.prog.underlying 30 = some (.struct (Try.prog.fieldsOf 30)) := by kernel_rfl
  have hp : Try.prog.stoodInHeld 30 = false := by kernel_rfl
  have h28 := Try.isAgg28
  have z28 := Try.sizeOf28
  rw [run_eql_struct, show (10000 : Nat) = 9999 + 1 from rfl, run_equalIn_agg w 9999 30 _ _ hS hp]
  simp only [Program.fieldsOf, Try.underlying30]
  simp only [Op.eqFields]
  simp [part, h28, z28]
  rw [show (9999 : Nat) = 9997 + 2 from rfl, equalIn28]
  cases eq3 x y <;> simp

theorem guard28 (op : BinOp) (a b : Operand) (xs ys : Array Value) (w : World) : (eqGuard op 28 a b (.agg xs) (.agg ys)).run Try.prog w = .ok () w := run_eqGuard_agg w op 28 a b xs ys (by kernel_rfl)
theorem guard30 (op : BinOp) (a b : Operand) (xs ys : Array Value) (w : World) : (eqGuard op 30 a b (.agg xs) (.agg ys)).run Try.prog w = .ok () w := run_eqGuard_agg w op 30 a b xs ys (by kernel_rfl)
end Go.Proofs.Qxb6618031a
