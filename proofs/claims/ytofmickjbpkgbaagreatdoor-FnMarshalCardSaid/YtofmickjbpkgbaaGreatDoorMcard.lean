/-
  The law FnMarshal: for every kind, sign and Dec it returns true (a decimal is kept as its text and read back as it was), whatever memory holds besides, under the condition that the listed package-level variables read as the program's own text lays them: the tied card.
-/
import Derived.Test.YtofmickjbpkgbaaGreatDoorMu
import Derived.Test.YtofmickjbpkgbaaGreatDoorMfacts
import Derived.Test.YtofmickjbpkgbaaGreatDoorCards
import Derived.Test.YtofmickjbpkgbaaGreatDoorTie
import Derived.SevenTiedAt
set_option maxRecDepth 100000
namespace Go.Proofs.YtofmickjbpkgbaaGreatDoor
section
open Go

theorem inst4 : Tryz.f4.isInstance Tryz.pinned.checked.prog Rows.fnMarshalRow.origin Rows.fnMarshalRow.targs := of_decide_eq_true (by kernel_rfl)
theorem wrap4 : Tryz.f4.isWrapper Tryz.pinned.checked.prog Rows.fnMarshalRow.wrapper Rows.fnMarshalRow.mainSum := by
  unfold Func.isWrapper
  first | (rw [if_pos (by decide +kernel)]; kernel_rfl) | (rw [if_neg (by decide +kernel)]; exact ⟨rfl, rfl⟩)
theorem named4 : Tryz.pinned.checked.prog.funcNamed Rows.fnMarshalRow.func = some 4 := by kernel_rfl

theorem fnMarshal_holds : Rows.FnMarshalSaid :=
  OpenClaim.holds_of_wide 4 Tryz.f4 rfl rfl rfl rfl rfl rfl rfl ⟨rfl, rfl, rfl, rfl, rfl⟩ rfl rfl rfl rfl rfl named4 Tryz.func4 facts4
    inst4 wrap4 (fun os started H enc _ => lifted4 os started H enc)

theorem d_wf : Rows.fnMarshalRow.wfByText (OpenSpec.ofChange Rows.fnMarshalSpec) = true := by kernel_rfl
theorem d_main : Tryz.pinned.checked.prog.mainIs = some (true, ("8b94dbe45f304843d99763e5a77e3316b5cd8f7e04679147635a08aa28b3f071" : String).toList) := by kernel_rfl
theorem d_goes : false = Rows.fnMarshalRow.goesBy Tryz.pinned.checked.prog := by kernel_rfl
theorem d_looks : true = Tryz.pinned.checked.prog.looks [] := by kernel_rfl
theorem d_func : Tryz.prog.funcNamed "loop.example/pub-g03255/laws.FnMarshal" = some 4 := by kernel_rfl
theorem d_wants : ([5, 4, 30].all fun u => !Tryz.prog.wantsStandIn u) = true := by kernel_rfl

theorem fnMarshal_card : Rows.FnMarshalCardSaid :=
  Claim7.holds_tied_plain_at .later [] [.data, .data, .data, .data, .sentinel, .sentinel, .sentinel, .sentinel, .sentinel, .data, .data, .data, .data, .data, .widerDeep, .pinned, .pinned] true (true, "8b94dbe45f304843d99763e5a77e3316b5cd8f7e04679147635a08aa28b3f071") true
    fnMarshal_holds (fun _ h => by cases h) d_wf (fun _ h => by cases h) fnMarshal_row_tie rfl ⟨rfl, rfl⟩ d_main rfl
    (fun f fn hf hfn => by
      obtain rfl : f = 4 := Option.some.inj (d_func.symm.trans hf) |>.symm
      obtain rfl : fn = Tryz.f4 := (Option.some.inj (Tryz.func4.symm.trans hfn)).symm
      exact ⟨d_looks, fun j t ht => by
        rw [Tryz.params4] at ht
        have hm : t ∈ [5, 4, 30] := by simpa using Array.mem_of_getElem? ht
        have h2 : Tryz.prog.wantsStandIn t = false := by simpa using List.all_eq_true.1 d_wants t hm
        exact h2⟩)
    d_goes
#print axioms fnMarshal_card
end

end Go.Proofs.YtofmickjbpkgbaaGreatDoor
