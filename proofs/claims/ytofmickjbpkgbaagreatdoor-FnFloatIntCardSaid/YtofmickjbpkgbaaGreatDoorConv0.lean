import Derived.Test.YtofmickjbpkgbaaGreatDoorDiv1
namespace Go.Proofs.YtofmickjbpkgbaaGreatDoor
open Go.RowKit
set_option maxRecDepth 100000

set_option maxHeartbeats 1000000 in
theorem maxPow_ten (w : World) : Calls Tryz.prog 126 #[.int .u64 10] w fun e w' => e = .returned (.tuple #[.int .u64 10000000000000000000, .int .i64 19]) ∧ w' = w := by
  go_enter Tryz.func126, Tryz.ntmps126
  go_wp2
  go_rounds 19
  go_ret2
  exact ⟨rfl, rfl⟩

theorem getStack_any (w : World) : Calls Tryz.prog 124 #[] w fun e w' => e = .returned (.pointer (some ⟨w.heap.size, 0, none⟩)) ∧ w' = w.alloc (.cells #[.pointer none] 247) := by
  go_enter Tryz.func124, Tryz.ntmps124
  go_wp2
  go_ret
  exact ⟨rfl, rfl⟩

theorem free_any (b : Nat) (w : World) (h : w.cell? ⟨b, 0, none⟩ = some (.pointer none)) : Calls Tryz.prog 125 #[.pointer (some ⟨b, 0, none⟩)] w fun e w' => e = .returned (.tuple #[]) ∧ w' = w := by
  go_enter Tryz.func125, Tryz.ntmps125
  go_wp2
  go_end0
  exact ⟨rfl, rfl⟩

theorem divisors_small (st : Value) (m : Nat) (b nd bb : Int) (w : World) (hm : m ≤ 8) (h : w.cell? ⟨10, 0, none⟩ = some (.int .i64 8)) :
    Calls Tryz.prog 127 #[st, .int .i64 m, .int .u64 b, .int .i64 nd, .int .u64 bb] w fun e w' => e = .returned (.slice none 0 0) ∧ w' = w := by
  go_enter Tryz.func127, Tryz.ntmps127
  go_wp2
  go_ret
  exact ⟨rfl, rfl⟩
end Go.Proofs.YtofmickjbpkgbaaGreatDoor
