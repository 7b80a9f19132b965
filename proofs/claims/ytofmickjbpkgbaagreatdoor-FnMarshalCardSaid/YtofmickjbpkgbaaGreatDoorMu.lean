import Derived.Test.YtofmickjbpkgbaaGreatDoorMs
import Derived.Test.YtofmickjbpkgbaaGreatDoorMt
set_option maxRecDepth 100000
namespace Go.Proofs.YtofmickjbpkgbaaGreatDoor
section
open Go.ChangeShapes Go.WideShapes Go.ChangeAt Go.WideElems Go.RowKit

theorem trodVars_len {H : Type} {enc : TypeId × Value → H} {P : Program} {w : World} {sp : Nat → Bool} : ∀ {ns : List String} {gs : List (DataW H)} {ps : List MemPlace}, DataW.TrodVars enc P w sp ns gs ps → gs.length = ns.length
  | [], [], _, _ => rfl
  | [], _ :: _, _, h => h.elim
  | _ :: _, [], _, h => h.elim
  | _ :: _, _ :: _, _, ⟨_, _, _, _, _, _, _, _, _, _, h, _⟩ => by simp [trodVars_len h]

theorem Tryz.own : ownKnob Tryz.prog.godebug = none := by kernel_rfl
theorem Tryz.laidOut : laidOutB Tryz.prog = true := by kernel_rfl
theorem c30 : Tryz.prog.cellsOf 30 = 4 := by kernel_rfl
theorem c3 : Tryz.prog.cellsOf 3 = 1 := by kernel_rfl
theorem c4 : Tryz.prog.cellsOf 4 = 1 := by kernel_rfl
theorem c24 : Tryz.prog.cellsOf 24 = 1 := by kernel_rfl
theorem c23 : Tryz.prog.cellsOf 23 = 1 := by kernel_rfl

/-- An argument of type Dec, opened. -/
theorem open_dec {H : Type} {enc : TypeId × Value → H} {W : World} {base : Nat} {v : Value} {d : DataW H} {p : List MemPlace} (hval : Value.okWide Tryz.prog W .any base 30 v) (h : DataW.Trod enc Tryz.prog W 0 (fun _ => true) true 30 v d p) :
    ∃ (fm ex : Int) (ng : Bool) (ao : Option Addr) (n c : Nat) (x : Nat → Nat), v = .agg #[.int .i64 fm, .bool ng, .slice ao n c, .int .i64 ex] ∧ n ≤ c ∧ c ≤ 9223372036854775807 ∧ Ws W ao n x ∧ ∀ j, j < n → x j < 18446744073709551616 := by
  obtain ⟨cs, rfl, hsz⟩ := okWide_struct Tryz.underlying30 hval
  obtain ⟨fuel, hf⟩ := h
  rw [c30] at hsz
  obtain ⟨v0, v1, v2, v3, rfl⟩ := Go.Joins.array4 hsz
  obtain ⟨y0, y1, y2, y3, m, hx, hl, t0, t1, t2, t3⟩ := Go.Joins.trod_struct4 Tryz.underlying30 hf
  have t0' : DataW.trod enc Tryz.prog W 0 (fun _ => true) true m 3 [v0] = some y0 := by rw [← t0, c3]; rfl
  have t1' : DataW.trod enc Tryz.prog W 0 (fun _ => true) true m 4 [v1] = some y1 := by rw [← t1, c4]; rfl
  have t2' : DataW.trod enc Tryz.prog W 0 (fun _ => true) true m 24 [v2] = some y2 := by rw [← t2, c24]; rfl
  have t3' : DataW.trod enc Tryz.prog W 0 (fun _ => true) true m 3 [v3] = some y3 := by rw [← t3, c3]; rfl
  clear t0 t1 t2 t3 hf hx hl hval
  obtain ⟨fm, e0, _, _⟩ := DataW.trod_int Tryz.underlying3 t0'
  obtain ⟨ng, e1, _⟩ := DataW.trod_bool Tryz.underlying4 t1'
  obtain ⟨ex, e3, _, _⟩ := DataW.trod_int Tryz.underlying3 t3'
  obtain rfl : v0 = .int .i64 fm := by simpa using e0
  obtain rfl : v1 = .bool ng := by simpa using e1
  obtain rfl : v3 = .int .i64 ex := by simpa using e3
  rcases open_ints Tryz.underlying24 Tryz.underlying23 c23 t2' with ⟨h, _⟩ | ⟨a, len, cap, zs, h, _, hlc, hcap, hzl, _, hcell, hwf⟩
  · obtain rfl : v2 = .slice none 0 0 := by simpa using h
    exact ⟨fm, ex, ng, none, 0, 0, fun _ => 0, rfl, by omega, by omega, .inl rfl, fun j hj => by omega⟩
  · obtain rfl : v2 = .slice (some a) len cap := by simpa using h
    have hzl' : zs.length = cap := by simpa using hzl
    have hw : ∀ j, j < len → 0 ≤ zs.getD j 0 ∧ zs.getD j 0 < 18446744073709551616 := by
      intro j hj
      have hm : zs.getD j 0 ∈ zs := by
        rw [List.getD_eq_getElem?_getD, List.getElem?_eq_getElem (by omega)]
        exact List.getElem_mem _
      have := hwf _ hm
      generalize zs.getD j 0 = z at this ⊢
      have e1 : IntKind.u64.min = 0 := rfl
      have e2 : IntKind.u64.max = 18446744073709551615 := rfl
      simp [Lit.wf] at this
      rw [e1, e2] at this
      omega
    refine ⟨fm, ex, ng, some a, len, cap, fun j => (zs.getD j 0).toNat, rfl, hlc, by unfold maxLen at hcap; omega, ?_, fun j hj => by have := hw j hj; show (zs.getD j 0).toNat < _; omega⟩
    rcases Nat.eq_zero_or_pos len with h0 | h0
    · exact .inl h0
    · right
      obtain ⟨b, o, sp⟩ := a
      have hc0 := hcell 0 (by omega)
      have hsp : sp = none := by simpa [Addr.add] using World.cell?_spot hc0
      subst hsp
      refine ⟨b, o, rfl, ?_, fun j hj => ?_⟩
      · have h1 : W.cell? ⟨b, o, none⟩ = some (.int .u64 (zs.getD 0 0)) := hc0
        exact World.block_lt_of_cell? W _ h1
      · have h1 := hcell j (by omega)
        have h2 : (⟨b, o, none⟩ : Addr).add j = ⟨b, o + j, none⟩ := by
          by_cases h : j = 0
          · subst h; rfl
          · simp [Addr.add, h]
        rw [h2] at h1
        rw [h1]
        have := hw j hj
        show some (Value.int .u64 (zs.getD j 0)) = some (.int .u64 ((zs.getD j 0).toNat : Nat))
        congr 2
        omega

theorem lifted4 (os : Os) (started : os.Started) (H : Type) (enc : TypeId × Value → H) :
    ReturnsInHanded Rows.fnMarshalRow.assume Tryz.checked os 4 .any (Rows.fnMarshalRow.pre enc Tryz.prog Tryz.f4 (OpenSpec.ofChange Rows.fnMarshalSpec))
      (Rows.fnMarshalSpec.post enc Tryz.prog Tryz.f4 Rows.fnMarshalRow.apart Rows.fnMarshalRow.fresh Rows.fnMarshalRow.handsOn Rows.fnMarshalRow.again) := by
  show ReturnsInHanded {} Tryz.checked os 4 .any (fun w args => (Rows.fnMarshalSpec.pre enc Tryz.prog Tryz.f4 Rows.fnMarshalRow.domain false w args ∧ laidMetH Tryz.prog Rows.fnMarshalRow.laid w) ∧ sizedMet enc Tryz.prog Tryz.f4 (OpenSpec.ofChange Rows.fnMarshalSpec) false w args) (Rows.fnMarshalSpec.post enc Tryz.prog Tryz.f4 false true false false)
  refine returnsInHanded_of_change_and (C := Tryz.checked) (X := fun w _ => laidMetH Tryz.prog Rows.fnMarshalRow.laid w) (fun _ _ _ hh h => h.of_heap hh) Tryz.own started (by kernel_rfl) Tryz.func4
    (ChangeSpec.witness_shaped (enc := enc) (C := Tryz.checked) (os := os) (X := fun w _ => laidMetH Tryz.prog Rows.fnMarshalRow.laid w) false (World.laidAll Tryz.prog os Rows.fnMarshalRow.laid) #[.int .u8 0, .bool false, .agg #[.int .i64 0, .bool false, .slice none 0 0, .int .i64 0]] 8 (World.laidAll_os _ _ _)
      (World.shaped_of_ZipB (by kernel_rfl) (by kernel_rfl)) (by kernel_rfl) (by kernel_rfl) (by kernel_rfl)
      (by rw [MakeChecks.laidMetH_plain _ _ _ (by kernel_rfl)]; exact laidMet_laidAll _ (by kernel_rfl) (by kernel_rfl))) ?_
  intro W base args ds gs before hval0 hW hc _ hL _
  have hval : ∀ (j : Nat) t v, Tryz.f4.params[j]? = some t → args[j]? = some v → Value.okWide Tryz.prog W .any base t v := hval0
  have hW' := hW
  obtain ⟨p, q, hA0, hV, rfl, _, _⟩ := hW
  have hA : DataW.TrodAll enc Tryz.prog W 0 (fun _ => true) true Tryz.f4.params.toList args.toList ds p := hA0
  have hlt := hA.lt
  rw [Tryz.params4] at hA hval
  obtain ⟨v0, v1, v2, d0, d1, d2, p0, p1, p2, rfl, rfl, rfl, h0, h1, h2⟩ := trodAll_three hA
  obtain ⟨a, rfl, rfl, rfl, wa⟩ := open_int Tryz.underlying5 (hval 0 5 v0 rfl rfl) h0
  obtain ⟨b, rfl, rfl, rfl⟩ := open_bool Tryz.underlying4 (hval 1 4 v1 rfl rfl) h1
  obtain ⟨fm, ex, ng, ao, n, c, x, rfl, hnc, hcc, hws, hxs⟩ := open_dec (hval 2 30 v2 rfl rfl) h2
  have hG := glob2_of hL
  have hwf : 0 ≤ a ∧ a < 256 := by
    have e1 : IntKind.u8.min = 0 := rfl
    have e2 : IntKind.u8.max = 255 := rfl
    simp [Lit.wf] at wa
    rw [e1, e2] at wa
    omega
  obtain ⟨m, rfl⟩ : ∃ m : Nat, a = m := ⟨a.toNat, by omega⟩
  clear hA0 hval0
  refine (fnMarshal_any m b fm ex ng n c ao x W (by omega) hnc hcc hws hxs hG).mono fun e W' ⟨he, hk⟩ => ?_
  subst he
  have bel : Below W.heap.size W W' := hk.below (Nat.le_refl _) (by simp)
  have hlen : gs.length = 8 := trodVars_len hV
  obtain ⟨g1, g2, g3, g4, g5, g6, g7, g8, rfl⟩ : ∃ g1 g2 g3 g4 g5 g6 g7 g8, gs = [g1, g2, g3, g4, g5, g6, g7, g8] := by
    match gs, hlen with
    | [a, b, c, d, e, f, g, h], _ => exact ⟨a, b, c, d, e, f, g, h, rfl⟩
  have h2' := Below.trod Tryz.laidOut (by kernel_rfl) (of_decide_eq_true (by kernel_rfl)) h2 bel (fun x hx => hlt x (by simp [hx]))
  exact ⟨_, rfl, _, _, _, [], _, _, hW', trodAll_mk1 (shut_bool Tryz.underlying4 _), trodAll_mk3 (shut_int Tryz.underlying5 wa) (shut_bool Tryz.underlying4 _) h2', Below.trodVars Tryz.laidOut bel (by kernel_rfl) hV, bel.frame _, fun h => by cases h⟩
end

end Go.Proofs.YtofmickjbpkgbaaGreatDoor
