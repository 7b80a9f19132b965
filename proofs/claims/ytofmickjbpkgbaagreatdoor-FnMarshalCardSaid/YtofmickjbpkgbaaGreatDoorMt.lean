import Derived.Test.YtofmickjbpkgbaaGreatDoorRows
import Derived.ProofKit
import Derived.OpenShut
import Derived.OpenVars
import Derived.LaidMore
import Derived.Lay
import Derived.Deep.Strs
import Derived.Stop.Joined
import Derived.Stop.LaidErr
import Derived.Lib.SmallJoins
import Derived.Carry
import Derived.Test.YtofmickjbpkgbaaGreatDoorMg
set_option maxRecDepth 100000
namespace Go.Proofs.YtofmickjbpkgbaaGreatDoor
section
open Go.ChangeShapes Go.WideShapes Go.ChangeAt Go.WideElems Go.RowKit

theorem laidVars_mem {P : Program} {w : World} {n : String} {d : DataW Unit} : ∀ {l : List (String × DataW Unit)} {ps : List MemPlace}, DataW.LaidVars P w l ps → (n, d) ∈ l →
    ∃ g t cs fuel p, P.globalNamed n = some g ∧ (P.globals[g]?).map (·.type) = some t ∧ w.var? P n = some cs ∧ DataW.trod (fun _ => ()) P w 0 (fun _ => true) false fuel t cs.toList = some (d, p)
  | [], _, _, h => by cases h
  | (n', d') :: r, ps, hl, h => by
    obtain ⟨g, t, cs, fuel, p, q, h1, h2, h3, h4, h5, h6⟩ := hl
    rcases List.mem_cons.1 h with e | e
    · obtain ⟨rfl, rfl⟩ := Prod.mk.inj e
      exact ⟨g, t, cs, fuel, p, h1, h2, h3, h4⟩
    · exact laidVars_mem h5 e

theorem laidVars_at {P : Program} {w : World} {n : String} {d : DataW Unit} {l : List (String × DataW Unit)} {ps : List MemPlace} (h : DataW.LaidVars P w l ps) (hm : (n, d) ∈ l) {g : Nat} {t : TypeId}
    (hg : P.globalNamed n = some g) (ht : (P.globals[g]?).map (·.type) = some t) :
    ∃ cs fuel p, w.var? P n = some cs ∧ DataW.trod (fun _ => ()) P w 0 (fun _ => true) false fuel t cs.toList = some (d, p) := by
  obtain ⟨g', t', cs, fuel, p, h1, h2, h3, h4⟩ := laidVars_mem h hm
  obtain rfl := Option.some.inj (hg.symm.trans h1)
  obtain rfl := Option.some.inj (ht.symm.trans h2)
  exact ⟨cs, fuel, p, h3, h4⟩

theorem laid_int {P : Program} {w : World} {n : String} {k : IntKind} {z : Int} {l : List (String × DataW Unit)} {ps : List MemPlace} (h : DataW.LaidVars P w l ps) {g : Nat} {t : TypeId}
    (hg : P.globalNamed n = some g) (ht : (P.globals[g]?).map (·.type) = some t) (hu : P.underlying t = some (.int k)) (hm : (n, .lit (.int k z)) ∈ l) : w.cell? ⟨g, 0, none⟩ = some (.int k z) := by
  obtain ⟨cs, fuel, p, h3, h4⟩ := laidVars_at h hm hg ht
  obtain ⟨z', e1, e2, _⟩ := DataW.trod_int hu h4
  have e3 := (Prod.mk.inj e2).1
  injection e3 with e3
  injection e3 with _ e3
  subst e3
  rw [World.var?_cell hg h3 0]
  have : cs.toList[0]? = some (.int k z) := by rw [e1]; rfl
  simpa using this

theorem leaf_g : Tryz.prog.globalNamed "loop.example/pub-g03255/pub/bigall.leafSize" = some 10 := by kernel_rfl
theorem leaf_t : (Tryz.prog.globals[10]?).map (·.type) = some 3 := by kernel_rfl
theorem sq_g : Tryz.prog.globalNamed "loop.example/pub-g03255/pub/bigall.basicSqrThreshold" = some 17 := by kernel_rfl
theorem sq_t : (Tryz.prog.globals[17]?).map (·.type) = some 3 := by kernel_rfl
theorem ksq_g : Tryz.prog.globalNamed "loop.example/pub-g03255/pub/bigall.karatsubaSqrThreshold" = some 18 := by kernel_rfl
theorem ksq_t : (Tryz.prog.globals[18]?).map (·.type) = some 3 := by kernel_rfl
theorem base_g : Tryz.prog.globalNamed "loop.example/pub-g03255/pub/apd.BaseContext" = some 1 := by kernel_rfl
theorem base_t : (Tryz.prog.globals[1]?).map (·.type) = some 94 := by kernel_rfl
theorem eof_g : Tryz.prog.globalNamed "io.EOF" = some 14 := by kernel_rfl
theorem eof_t : (Tryz.prog.globals[14]?).map (·.type) = some 51 := by kernel_rfl
theorem p10_g : Tryz.prog.globalNamed "internal/strconv.uint64pow10" = some 19 := by kernel_rfl
theorem star_e : "*" ++ "errors.errorString" = "*errors.errorString" := by decide
theorem row166 (u : TypeId) (h : Tryz.prog.typeName? 3 u = some "*errors.errorString") : u = 166 :=
  typeName_ptr_named (nm := "errors.errorString") (by rw [star_e]; kernel_rfl) (by kernel_rfl) (by decide) u (by rw [star_e]; exact h)
theorem p10_t : (Tryz.prog.globals[19]?).map (·.type) = some 305 := by kernel_rfl
theorem c22 : Tryz.prog.cellsOf 22 = 1 := by kernel_rfl
theorem c305 : Tryz.prog.cellsOf 305 = 20 := by kernel_rfl
theorem c168 : Tryz.prog.cellsOf 168 = 1 := by kernel_rfl
theorem c9 : Tryz.prog.cellsOf 9 = 1 := by kernel_rfl
theorem c79 : Tryz.prog.cellsOf 79 = 1 := by kernel_rfl
theorem c21 : Tryz.prog.cellsOf 21 = 1 := by kernel_rfl
theorem c80 : Tryz.prog.cellsOf 80 = 1 := by kernel_rfl
theorem c92 : Tryz.prog.cellsOf 92 = 1 := by kernel_rfl
theorem tab_eq : (Rows.laid_internal_strconv_uint64pow10 : DataW Unit) = Lib.tabData .u64 Lib.pow10Tab := by rfl

theorem laid_p10 {w : World} {l : List (String × DataW Unit)} {ps : List MemPlace} (h : DataW.LaidVars Tryz.prog w l ps) (hm : ("internal/strconv.uint64pow10", Rows.laid_internal_strconv_uint64pow10) ∈ l) :
    w.var? Tryz.prog "internal/strconv.uint64pow10" = some (Lib.pow10Tab.map fun z => Value.int .u64 z).toArray := by
  obtain ⟨cs, fuel, p, h3, h4⟩ := laidVars_at h hm p10_g p10_t
  rw [tab_eq] at h4
  rw [h3, ← Lib.cells_of_tab Tryz.underlying305 Tryz.underlying22 c22 c305 h4]

theorem laid_base {w : World} {l : List (String × DataW Unit)} {ps : List MemPlace} (h : DataW.LaidVars Tryz.prog w l ps) (hm : ("loop.example/pub-g03255/pub/apd.BaseContext", Rows.laid_loop_example_pub_g03255_pub_apd_BaseContext) ∈ l) :
    w.cell? ⟨1, 0, none⟩ = some (.int .u32 0) ∧ w.cell? ⟨1, 1, none⟩ = some (.int .i32 100000) ∧ w.cell? ⟨1, 2, none⟩ = some (.int .i32 (-100000)) ∧ w.cell? ⟨1, 3, none⟩ = some (.int .u32 1967) ∧ w.cell? ⟨1, 4, none⟩ = some (.string ⟨#[]⟩) := by
  obtain ⟨cs, fuel, p, h3, h4⟩ := laidVars_at h hm base_g base_t
  rw [World.var?_cell base_g h3 0, World.var?_cell base_g h3 1, World.var?_cell base_g h3 2, World.var?_cell base_g h3 3, World.var?_cell base_g h3 4]
  obtain ⟨xs, n, _, hx, hl, hlen, hf⟩ := DataW.trod_struct Tryz.underlying94 h4
  have hx1 := (Prod.mk.inj hx).1
  unfold Rows.laid_loop_example_pub_g03255_pub_apd_BaseContext at hx1
  match xs, hlen with
  | [y0, y1, y2, y3, y4], _ =>
    have g0 : DataW.trod (fun _ => ()) Tryz.prog w 0 (fun _ => true) false n 79 ((cs.toList.drop 0).take (Tryz.prog.cellsOf 79)) = some y0 := hf 0 _ rfl
    have g1 : DataW.trod (fun _ => ()) Tryz.prog w 0 (fun _ => true) false n 21 ((cs.toList.drop 1).take (Tryz.prog.cellsOf 21)) = some y1 := hf 1 _ rfl
    have g2 : DataW.trod (fun _ => ()) Tryz.prog w 0 (fun _ => true) false n 21 ((cs.toList.drop 2).take (Tryz.prog.cellsOf 21)) = some y2 := hf 2 _ rfl
    have g3 : DataW.trod (fun _ => ()) Tryz.prog w 0 (fun _ => true) false n 80 ((cs.toList.drop 3).take (Tryz.prog.cellsOf 80)) = some y3 := hf 3 _ rfl
    have g4 : DataW.trod (fun _ => ()) Tryz.prog w 0 (fun _ => true) false n 92 ((cs.toList.drop 4).take (Tryz.prog.cellsOf 92)) = some y4 := hf 4 _ rfl
    obtain ⟨z0, a0, b0, _⟩ := DataW.trod_int Tryz.underlying79 g0
    obtain ⟨z1, a1, b1, _⟩ := DataW.trod_int Tryz.underlying21 g1
    obtain ⟨z2, a2, b2, _⟩ := DataW.trod_int Tryz.underlying21 g2
    obtain ⟨z3, a3, b3, _⟩ := DataW.trod_int Tryz.underlying80 g3
    obtain ⟨s4, a4, b4, _⟩ := DataW.trod_string Tryz.underlying92 g4
    subst b0 b1 b2 b3 b4
    simp at hx1
    obtain ⟨e0, e1, e2, e3, e4⟩ := hx1
    have hs4 : s4 = ⟨#[]⟩ := by
      obtain ⟨⟨d⟩⟩ := s4
      have : d = [] := by simpa using e4
      subst this
      rfl
    rw [c79] at a0
    rw [c21] at a1 a2
    rw [c80] at a3
    rw [c92] at a4
    have at' : ∀ k (v : Value), (cs.toList.drop k).take 1 = [v] → cs[k]? = some v := by
      intro k v hk
      have := congrArg (fun l => l[0]?) hk
      simpa [List.getElem?_take, List.getElem?_drop] using this
    refine ⟨?_, ?_, ?_, ?_, ?_⟩
    · rw [at' 0 _ a0, ← e0]
    · rw [at' 1 _ a1, ← e1]
    · rw [at' 2 _ a2, ← e2]
    · rw [at' 3 _ a3, ← e3]
    · rw [at' 4 _ a4, hs4]

theorem glob2_of {w : World} (h : laidMetH Tryz.prog Rows.fnMarshalRow.laid w) : Glob2 w := by
  rw [MakeChecks.laidMetH_plain _ _ _ (by kernel_rfl)] at h
  have h2 := h
  obtain ⟨ps, hl, _⟩ := h
  have hb := laid_base hl (by simp [Rows.fnMarshalRow])
  have hp := laid_p10 hl (by simp [Rows.fnMarshalRow])
  obtain ⟨a, s, he, _⟩ := laid_sentinel (P := Tryz.prog) (text := [69, 79, 70]) (n := "io.EOF") (nm := "*errors.errorString") h2.tail.tail.tail.tail.tail.tail eof_g eof_t Tryz.underlying51 row166 Tryz.underlying166 Tryz.underlying168 rfl rfl Tryz.underlying9 c168 c9
  have hsz : 19 < w.heap.size := by
    rcases Nat.lt_or_ge 19 w.heap.size with h' | h'
    · exact h'
    · have h3 : w.heap[19]? = none := Array.getElem?_eq_none h'
      have : w.var? Tryz.prog "internal/strconv.uint64pow10" = none := by
        unfold World.var?
        rw [p10_g, Option.bind_some, h3]
      rw [this] at hp
      cases hp
  refine ⟨laid_int hl leaf_g leaf_t Tryz.underlying3 (by simp [Rows.fnMarshalRow, Rows.laid_loop_example_pub_g03255_pub_bigall_leafSize]), laid_int hl sq_g sq_t Tryz.underlying3 (by simp [Rows.fnMarshalRow, Rows.laid_loop_example_pub_g03255_pub_bigall_basicSqrThreshold]),
    laid_int hl ksq_g ksq_t Tryz.underlying3 (by simp [Rows.fnMarshalRow, Rows.laid_loop_example_pub_g03255_pub_bigall_karatsubaSqrThreshold]), hb.1, hb.2.1, hb.2.2.1, hb.2.2.2.1, hb.2.2.2.2, ⟨a, ?_⟩, fun w' hw => ?_, by omega⟩
  · rw [World.var?_cell eof_g he 0]; rfl
  · unfold Lib.TabIs World.var?
    unfold World.var? at hp
    rw [p10_g, Option.bind_some] at hp ⊢
    rw [hw 19 (by omega)]
    exact hp
end

end Go.Proofs.YtofmickjbpkgbaaGreatDoor
