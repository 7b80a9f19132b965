import Derived.Test.YtofmickjbpkgbaaGreatDoorText2
namespace Go.Proofs.YtofmickjbpkgbaaGreatDoor
open Go.RowKit
set_option maxRecDepth 100000

theorem cpl_zero (s : ByteArray) (c : Nat) (w : World) (h0 : 0 < s.size) (hm : s.size ≤ 100000) (hc : 48 ≤ c ∧ c ≤ 57) (hs : s[0].toNat = c) :
    Calls Tryz.prog 131 #[.string s, .string { data := #[105, 110, 102, 105, 110, 105, 116, 121] }] w fun e w' => e = .returned (.int .i64 0) ∧ w' = w := by
  have he : (({ data := #[105, 110, 102, 105, 110, 105, 116, 121] } : ByteArray)[0]'(by decide)).toNat = 105 := by kernel_rfl
  go_enter Tryz.func131, Tryz.ntmps131
  go_wp2
  refine wp_loop_rounds 1 ?_
  rw [rounds_succ]
  go_wp2
  go_ret
  exact ⟨rfl, rfl⟩


theorem special_pos (s : ByteArray) (c : Nat) (w : World) (h0 : 0 < s.size) (hm : s.size ≤ 100000) (hc : 48 ≤ c ∧ c ≤ 57) (hs : s[0].toNat = c) :
    Calls Tryz.prog 78 #[.string s] w fun e w' => e = .returned (.tuple #[.float .f64 0, .int .i64 0, .bool false]) ∧ w' = w := by
  go_enter Tryz.func78, Tryz.ntmps78
  go_wp2
  all_goals (go_ret3; exact ⟨rfl, rfl⟩)

theorem special_neg (s : ByteArray) (c : Nat) (w : World) (h0 : 1 < s.size) (hm : s.size ≤ 100000) (hc : 48 ≤ c ∧ c ≤ 57) (hs0 : s[0].toNat = 45) (hs : s[1].toNat = c) :
    Calls Tryz.prog 78 #[.string s] w fun e w' => e = .returned (.tuple #[.float .f64 0, .int .i64 0, .bool false]) ∧ w' = w := by
  have hsz : (s.extract 1 s.size).size = s.size - 1 := by simp
  have hget : (s.extract 1 s.size)[0]'(by omega) = s[1] := by simp [ByteArray.getElem_extract]
  have hg2 : ((s.extract 1 s.size)[0]'(by omega)).toNat = c := by rw [hget, hs]
  have H1 := hid (cpl_zero (s.extract 1 s.size) c w (by omega) (by omega) hc hg2)
  clear hsz hget hg2
  go_enter Tryz.func78, Tryz.ntmps78
  go_wp2_with (go_at_call 131; refine (H1.out).mono ?_; rintro e w1 ⟨rfl, rfl⟩)
  all_goals (go_ret3; exact ⟨rfl, rfl⟩)

end Go.Proofs.YtofmickjbpkgbaaGreatDoor
