import Derived.Test.YtofmickjbpkgbaaGreatDoorBitLen
import Derived.Laws.FloatArith
namespace Go.Proofs.YtofmickjbpkgbaaGreatDoor
open Go.RowKit
set_option maxRecDepth 100000

theorem run_f64bits (b : Nat) (w : World) : Sem.run Tryz.prog (callFunc 18 #[Value.float .f64 b]) w = .ok (.value (.int .u64 b)) w := by kernel_rfl
theorem run_f64from (n : Nat) (w : World) : Sem.run Tryz.prog (callFunc 295 #[Value.int .u64 n]) w = .ok (.value (.float .f64 n)) w := by kernel_rfl
theorem run_f64from2 (n : Nat) (w : World) : Sem.run Tryz.prog (callFunc 88 #[Value.int .u64 n]) w = .ok (.value (.float .f64 n)) w := by kernel_rfl
theorem run_archLog (w : World) : Sem.run Tryz.prog (callFunc 254 #[Value.float .f64 4603804719079489536]) w = .ok (.value (.float .f64 13825510489450817230)) w := by kernel_rfl

theorem abs_ten (w : World) : Calls Tryz.prog 324 #[.float .f64 4621819117588971520] w fun e w' => e = .returned (.float .f64 4621819117588971520) ∧ w' = w := by
  have r1 : ∀ w, Sem.run Tryz.prog (callFunc 18 #[Value.float .f64 4621819117588971520]) w = .ok (.value (.int .u64 4621819117588971520)) w := run_f64bits _
  have r2 : ∀ w, Sem.run Tryz.prog (callFunc 295 #[Value.int .u64 4621819117588971520]) w = .ok (.value (.float .f64 4621819117588971520)) w := run_f64from 4621819117588971520
  have b1 : bits .andNot .u64 4621819117588971520 9223372036854775808 = 4621819117588971520 := by kernel_rfl
  go_enter Tryz.func324, Tryz.ntmps324
  go_wp2
  go_ret
  exact ⟨rfl, rfl⟩

theorem isInf_ten (w : World) : Calls Tryz.prog 292 #[.float .f64 4621819117588971520, .int .i64 0] w fun e w' => e = .returned (.bool false) ∧ w' = w := by
  have o1 : (FloatKind.f64.format.order 4621819117588971520 9218868437227405311 == some Ordering.gt) = false := by kernel_rfl
  go_enter Tryz.func292, Tryz.ntmps292
  go_wp2_with fail
  refine (abs_ten w).mono ?_
  rintro e w' ⟨rfl, rfl⟩
  go_wp2
  go_ret
  exact ⟨rfl, rfl⟩

theorem isNaN_ten (w : World) : Calls Tryz.prog 293 #[.float .f64 4621819117588971520] w fun e w' => e = .returned (.bool false) ∧ w' = w := by
  have o1 : (FloatKind.f64.format.order 4621819117588971520 4621819117588971520 != some Ordering.eq) = false := by kernel_rfl
  go_enter Tryz.func293, Tryz.ntmps293
  go_wp2
  go_ret
  exact ⟨rfl, rfl⟩

theorem normalize_ten (w : World) : Calls Tryz.prog 294 #[.float .f64 4621819117588971520] w fun e w' => e = .returned (.tuple #[.float .f64 4621819117588971520, .int .i64 0]) ∧ w' = w := by
  have o1 : (FloatKind.f64.format.order 4621819117588971520 4503599627370496 == some Ordering.lt) = false := by kernel_rfl
  go_enter Tryz.func294, Tryz.ntmps294
  go_wp2_with fail
  refine (abs_ten w).mono ?_
  rintro e w' ⟨rfl, rfl⟩
  go_wp2
  go_ret2
  exact ⟨rfl, rfl⟩

theorem frexp_ten (w : World) : Calls Tryz.prog 253 #[.float .f64 4621819117588971520] w fun e w' => e = .returned (.tuple #[.float .f64 4603804719079489536, .int .i64 4]) ∧ w' = w := by
  have o1 : (FloatKind.f64.format.order 4621819117588971520 0 == some Ordering.eq) = false := by kernel_rfl
  have r1 : ∀ w, Sem.run Tryz.prog (callFunc 18 #[Value.float .f64 4621819117588971520]) w = .ok (.value (.int .u64 4621819117588971520)) w := run_f64bits _
  have r2 : ∀ w, Sem.run Tryz.prog (callFunc 295 #[Value.int .u64 4603804719079489536]) w = .ok (.value (.float .f64 4603804719079489536)) w := run_f64from 4603804719079489536
  have b1 : bits .and .u64 1026 2047 = 1026 := by kernel_rfl
  have b2 : bits .andNot .u64 4621819117588971520 9218868437227405312 = 1125899906842624 := by kernel_rfl
  have b3 : bits .or .u64 1125899906842624 4602678819172646912 = 4603804719079489536 := by kernel_rfl
  go_enter Tryz.func253, Tryz.ntmps253
  go_wp2_with (first | (go_at_call 292; refine (isInf_ten _).mono ?_; rintro e w' ⟨rfl, rfl⟩) | (go_at_call 293; refine (isNaN_ten _).mono ?_; rintro e w' ⟨rfl, rfl⟩) | (go_at_call 294; refine (normalize_ten _).mono ?_; rintro e w' ⟨rfl, rfl⟩))
  go_ret2
  exact ⟨rfl, rfl⟩

theorem frexp_ten' (w : World) : Calls Tryz.prog 219 #[.float .f64 4621819117588971520] w fun e w' => e = .returned (.tuple #[.float .f64 4603804719079489536, .int .i64 4]) ∧ w' = w := by
  go_enter Tryz.func219, Tryz.ntmps219
  go_wp2_with fail
  refine (frexp_ten w).mono ?_
  rintro e w' ⟨rfl, rfl⟩
  go_wp2
  go_ret2
  exact ⟨rfl, rfl⟩

theorem log_val (w : World) : Calls Tryz.prog 220 #[.float .f64 4603804719079489536] w fun e w' => e = .returned (.float .f64 13825510489450817230) ∧ w' = w := by
  have r1 := run_archLog
  go_enter Tryz.func220, Tryz.ntmps220
  go_wp2
  go_ret
  exact ⟨rfl, rfl⟩

theorem log2_ten (w : World) : Calls Tryz.prog 181 #[.float .f64 4621819117588971520] w fun e w' => e = .returned (.float .f64 4614662735865160561) ∧ w' = w := by
  have o1 : (FloatKind.f64.format.order 4603804719079489536 4602678819172646912 == some Ordering.eq) = false := by kernel_rfl
  have m1 : ∀ w, (binOp .mul 49 (.float .f64 13825510489450817230) (.float .f64 4609176140021203710)).run Tryz.prog w = .ok (.float .f64 13827654785158443579) w := fun w => run_float_arith w .mul 49 .f64 _ _ _ (by kernel_rfl)
  have m2 : ∀ w, (binOp .add 49 (.float .f64 13827654785158443579) (.float .f64 4616189618054758400)).run Tryz.prog w = .ok (.float .f64 4614662735865160561) w := fun w => run_float_arith w .add 49 .f64 _ _ _ (by kernel_rfl)
  have f4 : floatOfInt .f64 4 = 4616189618054758400 := by kernel_rfl
  go_enter Tryz.func181, Tryz.ntmps181
  go_wp2_with (first | (go_at_call 219; refine (frexp_ten' _).mono ?_; rintro e w' ⟨rfl, rfl⟩) | (go_at_call 220; refine (log_val _).mono ?_; rintro e w' ⟨rfl, rfl⟩))
  go_ret
  exact ⟨rfl, rfl⟩

theorem log2_ten' (w : World) : Calls Tryz.prog 122 #[.float .f64 4621819117588971520] w fun e w' => e = .returned (.float .f64 4614662735865160561) ∧ w' = w := by
  go_enter Tryz.func122, Tryz.ntmps122
  go_wp2_with fail
  refine (log2_ten w).mono ?_
  rintro e w' ⟨rfl, rfl⟩
  go_wp2
  go_ret
  exact ⟨rfl, rfl⟩
end Go.Proofs.YtofmickjbpkgbaaGreatDoor
