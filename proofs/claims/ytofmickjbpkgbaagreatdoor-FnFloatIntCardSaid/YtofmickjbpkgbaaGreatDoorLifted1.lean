import Derived.Test.YtofmickjbpkgbaaGreatDoorLaw1
import Derived.Test.YtofmickjbpkgbaaGreatDoorRows
import Derived.ProofKit
import Derived.OpenShut
import Derived.OpenVars
import Derived.LaidMore
import Derived.Lay
import Derived.Deep.Strs
import Derived.Stop.Joined
namespace Go.Proofs.YtofmickjbpkgbaaGreatDoor
open Go.ChangeShapes Go.WideShapes Go.ChangeAt Go.WideElems Go.RowKit
set_option maxRecDepth 100000

theorem laidVars_mem {P : Program} {w : World} {n : String} {d : DataW Unit} : ∀ {l : List (String × DataW Unit)} {ps : List MemPlace}, DataW.LaidVars P w l ps → (n, d) ∈ l →
    ∃ g t cs fuel p, P.globalNamed n = some g ∧ (P.globals[g]?).map (·.type) = some t ∧ w.var? P n = some cs ∧ DataW.trod (fun _ => ()) P w 0 (fun _ => true) false fuel t cs.toList = some (d, p)
  | [], _, _, h => by cases h
  | (n', d') :: r, ps, hl, h => by
    obtain ⟨g, t, cs, fuel, p, q, h1, h2, h3, h4, h5, h6⟩ := hl
    rcases List.mem_cons.1 h with e | e
    · obtain ⟨rfl, rfl⟩ := Prod.mk.inj e
      exact ⟨g, t, cs, fuel, p, h1, h2, h3, h4⟩
    · exact laidVars_mem h5 e

theorem laidVars_at {P : Program} {w : World} {n : String} {d : DataW Unit} {l : List (String × DataW Unit)} {ps : List MemPlace} (h : DataW.LaidVars P w l ps) (hm : (n, d) ∈ l) {g : Nat} {t : TypeId}
    (hg : P.globalNamed n = some g) (ht : (P.globals[g]?).map (·.type) = some t) :
    ∃ cs fuel p, w.var? P n = some cs ∧ DataW.trod (fun _ => ()) P w 0 (fun _ => true) false fuel t cs.toList = some (d, p) := by
  obtain ⟨g', t', cs, fuel, p, h1, h2, h3, h4⟩ := laidVars_mem h hm
  obtain rfl := Option.some.inj (hg.symm.trans h1)
  obtain rfl := Option.some.inj (ht.symm.trans h2)
  exact ⟨cs, fuel, p, h3, h4⟩

theorem laid_int {P : Program} {w : World} {n : String} {k : IntKind} {z : Int} {l : List (String × DataW Unit)} {ps : List MemPlace} (h : DataW.LaidVars P w l ps) {g : Nat} {t : TypeId}
    (hg : P.globalNamed n = some g) (ht : (P.globals[g]?).map (·.type) = some t) (hu : P.underlying t = some (.int k)) (hm : (n, .lit (.int k z)) ∈ l) : w.cell? ⟨g, 0, none⟩ = some (.int k z) := by
  obtain ⟨cs, fuel, p, h3, h4⟩ := laidVars_at h hm hg ht
  obtain ⟨z', e1, e2, _⟩ := DataW.trod_int hu h4
  have e3 := (Prod.mk.inj e2).1
  injection e3 with e3
  injection e3 with _ e3
  subst e3
  rw [World.var?_cell hg h3 0]
  have : cs.toList[0]? = some (.int k z) := by rw [e1]; rfl
  simpa using this

theorem opt_g : Tryz.prog.globalNamed "internal/strconv.optimize" = some 5 := by kernel_rfl
theorem opt_t : (Tryz.prog.globals[5]?).map (·.type) = some 4 := by kernel_rfl
theorem f64_g : Tryz.prog.globalNamed "internal/strconv.float64info" = some 6 := by kernel_rfl
theorem f64_t : (Tryz.prog.globals[6]?).map (·.type) = some 148 := by kernel_rfl
theorem leaf_g : Tryz.prog.globalNamed "loop.example/pub-g03255/pub/bigall.leafSize" = some 10 := by kernel_rfl
theorem leaf_t : (Tryz.prog.globals[10]?).map (·.type) = some 3 := by kernel_rfl
theorem pow_g : Tryz.prog.globalNamed "internal/strconv.pow10Tab" = some 11 := by kernel_rfl
theorem pow_t : (Tryz.prog.globals[11]?).map (·.type) = some 264 := by kernel_rfl

theorem laid_bool {P : Program} {w : World} {n : String} {z : Bool} {l : List (String × DataW Unit)} {ps : List MemPlace} (h : DataW.LaidVars P w l ps) {g : Nat} {t : TypeId}
    (hg : P.globalNamed n = some g) (ht : (P.globals[g]?).map (·.type) = some t) (hu : P.underlying t = some .bool) (hm : (n, .lit (.bool z)) ∈ l) : w.cell? ⟨g, 0, none⟩ = some (.bool z) := by
  obtain ⟨cs, fuel, p, h3, h4⟩ := laidVars_at h hm hg ht
  rw [World.var?_cell hg h3 0]
  cases fuel with
  | zero => cases h4
  | succ m =>
    unfold DataW.trod at h4
    rw [hu] at h4
    obtain ⟨c⟩ := cs
    match c, h4 with
    | [.bool b], h4 =>
      simp at h4
      obtain ⟨h4, _⟩ := h4
      subst h4
      rfl

theorem laid_f64 {w : World} {l : List (String × DataW Unit)} {ps : List MemPlace} (h : DataW.LaidVars Tryz.prog w l ps) (hm : ("internal/strconv.float64info", Rows.laid_internal_strconv_float64info) ∈ l) : w.cell? ⟨6, 0, none⟩ = some (.int .u64 52) := by
  obtain ⟨cs, fuel, p, h3, h4⟩ := laidVars_at h hm f64_g f64_t
  rw [World.var?_cell f64_g h3 0]
  obtain ⟨y0, y1, y2, n, e, hl, t0, t1, t2⟩ := Go.Deep.trod_struct3 Tryz.underlying148 h4
  have c23 : Tryz.prog.cellsOf 23 = 1 := by kernel_rfl
  obtain ⟨z, e1, e2, _⟩ := DataW.trod_int Tryz.underlying23 t0
  have e3 := (Prod.mk.inj e).1
  rw [e2] at e3
  unfold Rows.laid_internal_strconv_float64info at e3
  simp at e3
  obtain ⟨e3, _⟩ := e3
  subst e3
  rw [c23] at e1
  have : cs.toList[0]? = some (.int .u64 52) := by
    have h0 : ((cs.toList.drop 0).take 1)[0]? = some (.int .u64 52) := by rw [e1]; rfl
    simpa using h0
  simpa using this

theorem pow_row : (Go.Pinned.pow10Rows[348]?) = some (9223372036854775808, 0) := by kernel_rfl

theorem laid_pow {w : World} {l : List (String × DataW Unit)} {ps : List MemPlace} (h : DataW.LaidVars Tryz.prog w l ps) (hm : ("internal/strconv.pow10Tab", Rows.laid_internal_strconv_pow10Tab) ∈ l) :
    w.cell? ⟨11, 696, none⟩ = some (.int .u64 9223372036854775808) ∧ w.cell? ⟨11, 697, none⟩ = some (.int .u64 0) := by
  obtain ⟨cs, fuel, p, h3, h4⟩ := laidVars_at h hm pow_g pow_t
  rw [World.var?_cell pow_g h3 696, World.var?_cell pow_g h3 697]
  obtain ⟨xs, m, _, ex, _, hl, hel⟩ := DataW.trod_array Tryz.underlying264 h4
  have c263 : Tryz.prog.cellsOf 263 = 2 := by kernel_rfl
  have c22 : Tryz.prog.cellsOf 22 = 1 := by kernel_rfl
  have hE := hel 348 (by omega)
  rw [c263, List.getElem?_eq_getElem (by omega)] at hE
  obtain ⟨y0, y1, n, e, hl2, t0, t1⟩ := trod_struct2 Tryz.underlying263 hE
  obtain ⟨z0, a1, a2, _⟩ := DataW.trod_int Tryz.underlying22 t0
  obtain ⟨z1, b1, b2, _⟩ := DataW.trod_int Tryz.underlying22 t1
  have e3 : xs.map (·.1) = Go.Pinned.pow10Rows.map fun x => .agg [.lit (.int .u64 x.1), .lit (.int .u64 x.2)] := by
    have := (Prod.mk.inj ex).1
    unfold Rows.laid_internal_strconv_pow10Tab Go.Pinned.pow10Tab at this
    exact (DataW.agg.inj this).symm
  have e4 := congrArg (fun l => l[348]?) e3
  simp only [List.getElem?_map] at e4
  rw [pow_row, List.getElem?_eq_getElem (by omega)] at e4
  simp only [Option.map_some, Option.some.injEq] at e4
  rw [e] at e4
  rw [a2, b2] at e4
  simp at e4
  obtain ⟨e5, e6⟩ := e4
  subst e5 e6
  rw [c22] at a1 b1
  simp only [List.take_take, List.drop_take, List.drop_drop] at a1 b1
  constructor
  · have h0 := congrArg (fun l => l[0]?) a1
    simp at h0
    simpa using h0
  · have h0 := congrArg (fun l => l[0]?) b1
    simp at h0
    simpa using h0

theorem trodVars_len {H : Type} {enc : TypeId × Value → H} {P : Program} {w : World} {sp : Nat → Bool} : ∀ {ns : List String} {gs : List (DataW H)} {ps : List MemPlace}, DataW.TrodVars enc P w sp ns gs ps → gs.length = ns.length
  | [], [], _, _ => rfl
  | [], _ :: _, _, h => h.elim
  | _ :: _, [], _, h => h.elim
  | _ :: _, _ :: _, _, ⟨_, _, _, _, _, _, _, _, _, _, h, _⟩ => by simp [trodVars_len h]

theorem Tryz.own : ownKnob Tryz.prog.godebug = none := by kernel_rfl
theorem Tryz.laidOut : laidOutB Tryz.prog = true := by kernel_rfl

theorem glob_of {w : World} (h : laidMetH Tryz.prog Rows.fnFloatIntRow.laid w) : Glob w := by
  rw [MakeChecks.laidMetH_plain _ _ _ (by kernel_rfl)] at h
  obtain ⟨ps, hl, _⟩ := h
  have hp := laid_pow hl (by simp [Rows.fnFloatIntRow])
  exact ⟨laid_bool hl opt_g opt_t Tryz.underlying4 (by simp [Rows.fnFloatIntRow, Rows.laid_internal_strconv_optimize]), laid_f64 hl (by simp [Rows.fnFloatIntRow]),
    laid_int hl leaf_g leaf_t Tryz.underlying3 (by simp [Rows.fnFloatIntRow, Rows.laid_loop_example_pub_g03255_pub_bigall_leafSize]), hp.1, hp.2⟩

theorem lifted (os : Os) (started : os.Started) (H : Type) (enc : TypeId × Value → H) :
    ReturnsInHanded {} Tryz.checked os 3 .any (fun w args => (Rows.fnFloatIntSpec.pre enc Tryz.prog Tryz.f3 Rows.fnFloatIntRow.domain false w args ∧ laidMetH Tryz.prog Rows.fnFloatIntRow.laid w) ∧ sizedMet enc Tryz.prog Tryz.f3 (OpenSpec.ofChange Rows.fnFloatIntSpec) false w args)
      (Rows.fnFloatIntSpec.post enc Tryz.prog Tryz.f3 false true false false) := by
  refine returnsInHanded_of_change_and (C := Tryz.checked) (X := fun w _ => laidMetH Tryz.prog Rows.fnFloatIntRow.laid w) (fun _ _ _ hh h => h.of_heap hh) Tryz.own started (by kernel_rfl) Tryz.func3
    (ChangeSpec.witness_shaped (enc := enc) (C := Tryz.checked) (os := os) (X := fun w _ => laidMetH Tryz.prog Rows.fnFloatIntRow.laid w) false (World.laidAll Tryz.prog os Rows.fnFloatIntRow.laid) #[.int .u64 0, .bool false] 8 (World.laidAll_os _ _ _)
      (World.shaped_of_ZipB (by kernel_rfl) (by kernel_rfl)) (by kernel_rfl) (by kernel_rfl) (by kernel_rfl)
      (by rw [MakeChecks.laidMetH_plain _ _ _ (by kernel_rfl)]; exact laidMet_laidAll _ (by kernel_rfl) (by kernel_rfl))) ?_
  intro W base args ds gs before hval0 hW hc _ hL _
  have hval : ∀ (j : Nat) t v, Tryz.f3.params[j]? = some t → args[j]? = some v → Value.okWide Tryz.prog W .any base t v := hval0
  have hW' := hW
  obtain ⟨p, q, hA0, hV, rfl, _, _⟩ := hW
  have hA : DataW.TrodAll enc Tryz.prog W 0 (fun _ => true) true Tryz.f3.params.toList args.toList ds p := hA0
  rw [Tryz.params3] at hA hval
  obtain ⟨v0, v1, d0, d1, p0, p1, rfl, rfl, rfl, h0, h1⟩ := trodAll_two hA
  obtain ⟨a, rfl, rfl, rfl, wa⟩ := open_int Tryz.underlying22 (hval 0 22 v0 rfl rfl) h0
  obtain ⟨b, rfl, rfl, rfl⟩ := open_bool Tryz.underlying4 (hval 1 4 v1 rfl rfl) h1
  have hG := glob_of hL
  have hwf : 0 ≤ a ∧ a < 18446744073709551616 := by
    have e1 : IntKind.u64.min = 0 := rfl
    have e2 : IntKind.u64.max = 18446744073709551615 := rfl
    simp [Lit.wf] at wa
    rw [e1, e2] at wa
    omega
  obtain ⟨m, rfl⟩ : ∃ m : Nat, a = m := ⟨a.toNat, by omega⟩
  clear hA0 hval0
  refine (fnFloatInt_any m b W (by omega) hG).mono fun e W' ⟨he, hk⟩ => ?_
  subst he
  have bel : Below W.heap.size W W' := hk.below (Nat.le_refl _) (by simp)
  have hlen : gs.length = 5 := trodVars_len hV
  obtain ⟨g1, g2, g3, g4, g5, rfl⟩ : ∃ g1 g2 g3 g4 g5, gs = [g1, g2, g3, g4, g5] := by
    match gs, hlen with
    | [a, b, c, d, e], _ => exact ⟨a, b, c, d, e, rfl⟩
  exact ⟨_, rfl, _, _, _, [], _, _, hW', trodAll_mk1 (shut_bool Tryz.underlying4 _), trodAll_mk2 (shut_int Tryz.underlying22 wa) (shut_bool Tryz.underlying4 _), Below.trodVars Tryz.laidOut bel (by kernel_rfl) hV, bel.frame _, fun h => by cases h⟩

end Go.Proofs.YtofmickjbpkgbaaGreatDoor
