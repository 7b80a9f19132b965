/-
  The law FnFloatInt: for every m and sign it returns true (the decimal text of a whole number below two to the 53 is read back as that very float64), whatever memory holds besides, under the condition that the listed package-level variables read as the program's own text lays them: the tied card.
-/
import Derived.Test.YtofmickjbpkgbaaGreatDoorLifted1
import Derived.Test.YtofmickjbpkgbaaGreatDoorFacts1
import Derived.Test.YtofmickjbpkgbaaGreatDoorCards
import Derived.Test.YtofmickjbpkgbaaGreatDoorTie
import Derived.SevenTiedAt
namespace Go.Proofs.YtofmickjbpkgbaaGreatDoor
open Go
set_option maxRecDepth 100000

theorem inst1 : Tryz.f3.isInstance Tryz.pinned.checked.prog Rows.fnFloatIntRow.origin Rows.fnFloatIntRow.targs := of_decide_eq_true (by kernel_rfl)
theorem wrap1 : Tryz.f3.isWrapper Tryz.pinned.checked.prog Rows.fnFloatIntRow.wrapper Rows.fnFloatIntRow.mainSum := by
  unfold Func.isWrapper
  first | (rw [if_pos (by decide +kernel)]; kernel_rfl) | (rw [if_neg (by decide +kernel)]; exact ⟨rfl, rfl⟩)
theorem named1 : Tryz.pinned.checked.prog.funcNamed Rows.fnFloatIntRow.func = some 3 := by kernel_rfl

theorem fnFloatInt_holds : Rows.FnFloatIntSaid :=
  OpenClaim.holds_of_wide 3 Tryz.f3 rfl rfl rfl rfl rfl rfl rfl ⟨rfl, rfl, rfl, rfl, rfl⟩ rfl rfl rfl rfl rfl named1 Tryz.func3 facts1
    inst1 wrap1 (fun os started H enc _ => lifted os started H enc)

theorem c_wf : Rows.fnFloatIntRow.wfByText (OpenSpec.ofChange Rows.fnFloatIntSpec) = true := by kernel_rfl
theorem c_main : Tryz.pinned.checked.prog.mainIs = some (true, ("8b94dbe45f304843d99763e5a77e3316b5cd8f7e04679147635a08aa28b3f071" : String).toList) := by kernel_rfl
theorem c_goes : false = Rows.fnFloatIntRow.goesBy Tryz.pinned.checked.prog := by kernel_rfl
theorem c_looks : true = Tryz.pinned.checked.prog.looks [] := by kernel_rfl
theorem c_func : Tryz.prog.funcNamed "loop.example/pub-g03255/laws.FnFloatInt" = some 3 := by kernel_rfl
theorem c_wants : ([22, 4].all fun u => !Tryz.prog.wantsStandIn u) = true := by kernel_rfl

theorem fnFloatInt_card : Rows.FnFloatIntCardSaid :=
  Claim7.holds_tied_plain_at .later [] [.data, .data, .widerDeep, .widerDeep, .data, .data, .data, .data, .data, .sentinel, .sentinel, .data, .data, .data, .data, .data, .pinned, .pinned] true (true, "8b94dbe45f304843d99763e5a77e3316b5cd8f7e04679147635a08aa28b3f071") true
    fnFloatInt_holds (fun _ h => by cases h) c_wf (fun _ h => by cases h) fnFloatInt_row_tie rfl ⟨rfl, rfl⟩ c_main rfl
    (fun f fn hf hfn => by
      obtain rfl : f = 3 := Option.some.inj (c_func.symm.trans hf) |>.symm
      obtain rfl : fn = Tryz.f3 := (Option.some.inj (Tryz.func3.symm.trans hfn)).symm
      exact ⟨c_looks, fun j t ht => by
        rw [Tryz.params3] at ht
        have hm : t ∈ [22, 4] := by simpa using Array.mem_of_getElem? ht
        have h2 : Tryz.prog.wantsStandIn t = false := by simpa using List.all_eq_true.1 c_wants t hm
        exact h2⟩)
    c_goes
#print axioms fnFloatInt_card
end Go.Proofs.YtofmickjbpkgbaaGreatDoor
