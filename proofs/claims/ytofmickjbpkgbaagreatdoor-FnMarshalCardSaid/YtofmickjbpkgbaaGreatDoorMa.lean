import Derived.Test.YtofmickjbpkgbaaGreatDoorProg
import Derived.WalkKit
import Derived.Handy
import Derived.WalkLawsBesides
import Derived.WalkSpells
import Derived.Laws.CopyOwn
import Derived.LaidEqlPtr
import Derived.Lib.Builder
import Derived.Deep.RegionHeld3
import Derived.Deep.QuietTactic
import Derived.BigQuiet
import Derived.Deep.AppendSrc
set_option maxRecDepth 100000
namespace Go.Proofs.YtofmickjbpkgbaaGreatDoor
section
open Go.RowKit

/-- A fact that the walk does not look into. -/
theorem hid {p : Prop} (h : p) : Hid p := h

/-- What a call leaves as it was: all old blocks but those of the list 'bs'. -/
structure Kept (bs : List Nat) (w w' : World) : Prop where
  os : w'.os = w.os
  tape : w'.tape = w.tape
  output : w'.output = w.output
  size : w.heap.size ≤ w'.heap.size
  block : ∀ k, k < w.heap.size → k ∉ bs → w'.heap[k]? = w.heap[k]?

theorem Kept.refl (bs : List Nat) (w : World) : Kept bs w w := ⟨rfl, rfl, rfl, Nat.le_refl _, fun _ _ _ => rfl⟩

theorem Kept.trans {bs cs ds : List Nat} {a b c : World} (h : Kept bs a b) (k : Kept cs b c) (h1 : ∀ x ∈ bs, x ∈ ds ∨ a.heap.size ≤ x) (h2 : ∀ x ∈ cs, x ∈ ds ∨ a.heap.size ≤ x) : Kept ds a c :=
  ⟨k.os.trans h.os, k.tape.trans h.tape, k.output.trans h.output, Nat.le_trans h.size k.size, fun i hi hn => by
    rw [k.block i (Nat.lt_of_lt_of_le hi h.size) (fun hm => by rcases h2 i hm with h2 | h2; exact hn h2; omega)]
    exact h.block i hi (fun hm => by rcases h1 i hm with h1 | h1; exact hn h1; omega)⟩

theorem Kept.then {a b c : World} (h : Kept [] a b) (k : Kept [] b c) : Kept [] a c := h.trans k (by simp) (by simp)

theorem Kept.mono {bs cs : List Nat} {w w' : World} (h : Kept bs w w') (hs : ∀ x ∈ bs, x ∈ cs ∨ w.heap.size ≤ x) : Kept cs w w' :=
  ⟨h.os, h.tape, h.output, h.size, fun i hi hn => h.block i hi (fun hm => by rcases hs i hm with h1 | h1; exact hn h1; omega)⟩

theorem Kept.alloc {bs : List Nat} {a w : World} (h : Kept bs a w) (o : Obj) : Kept bs a (w.alloc o) :=
  ⟨h.os, h.tape, h.output, by have := h.size; simp; omega, fun i hi hn => by
    rw [Below.heap_alloc _ _ _ (Nat.lt_of_lt_of_le hi h.size)]; exact h.block i hi hn⟩

theorem Kept.drew {bs : List Nat} {a w : World} (h : Kept bs a w) : Kept bs a w.drew := ⟨h.os, h.tape, h.output, h.size, h.block⟩

theorem Kept.drewN {bs : List Nat} {a w : World} (h : Kept bs a w) (k : Nat) : Kept bs a (w.drewN k) := ⟨h.os, h.tape, h.output, h.size, h.block⟩

theorem Kept.ofDrew {bs : List Nat} {a w : World} (h : Kept bs a.drew w) : Kept bs a w := ⟨h.os, h.tape, h.output, h.size, h.block⟩

theorem Kept.setCell {bs : List Nat} {a w : World} (h : Kept bs a w) (p : Addr) (v : Value) (hp : p.block ∈ bs ∨ a.heap.size ≤ p.block) : Kept bs a (w.setCell p v) :=
  ⟨h.os, h.tape, h.output, by have := h.size; simp; omega, fun i hi hn => by
    rw [Below.heap_setCell _ _ _ _ (fun e => by subst e; rcases hp with hp | hp; exact hn hp; omega)]; exact h.block i hi hn⟩

theorem Kept.grown {bs : List Nat} {a w w' : World} {row : Option Nat} (h : Kept bs a w) (hg : w.grownBy w' row) (hr : ∀ k, row = some k → k ∈ bs ∨ a.heap.size ≤ k) : Kept bs a w' :=
  ⟨hg.os.trans h.os, hg.tape.trans h.tape, hg.output.trans h.output, Nat.le_trans h.size hg.size, fun i hi hn => by
    rw [hg.block i (Nat.lt_of_lt_of_le hi h.size) (fun e => by rcases hr i e.symm with hr | hr; exact hn hr; omega)]; exact h.block i hi hn⟩

theorem Kept.below {bs : List Nat} {w w' : World} (h : Kept bs w w') {B : Nat} (hB : B ≤ w.heap.size) (hs : ∀ x ∈ bs, B ≤ x) : Below B w w' :=
  ⟨h.os, h.tape, h.output, h.size, fun i hi => h.block i (by omega) (fun hm => by have := hs i hm; omega)⟩

theorem Kept.cell {bs : List Nat} {w w' : World} (h : Kept bs w w') {p : Addr} (hp : p.block < w.heap.size) (hn : p.block ∉ bs) : w'.cell? p = w.cell? p :=
  World.cell?_of_block (h.block _ hp hn)

theorem Kept.frozen {bs : List Nat} {w w' : World} (h : Kept bs w w') {p : Addr} (hp : p.block < w.heap.size) (hn : p.block ∉ bs) : w'.frozen? p = w.frozen? p :=
  World.frozen?_of_block (h.block _ hp hn)

theorem Kept.cellOf {bs : List Nat} {w w' : World} (h : Kept bs w w') {p : Addr} {v : Value} (hc : w.cell? p = some v) (hn : p.block ∉ bs) : w'.cell? p = some v :=
  (h.cell (World.block_lt_of_cell? w p hc) hn).trans hc

theorem lt_of_heap {w : World} {g : Nat} {o : Obj} (h : w.heap[g]? = some o) : g < w.heap.size := (Array.getElem?_eq_some_iff.1 h).1

theorem Kept.heap {bs : List Nat} {w w' : World} (h : Kept bs w w') {g : Nat} {o : Obj} (hc : w.heap[g]? = some o) (hn : g ∉ bs) : w'.heap[g]? = some o :=
  (h.block g (lt_of_heap hc) hn).trans hc

theorem cell_of_heap {w : World} {g : Nat} {cur : Array Value} {e : TypeId} {fr : Nat × Nat} (h : w.heap[g]? = some (.cells cur e fr)) (j : Nat) : w.cell? ⟨g, j, none⟩ = cur[j]? := by
  simp [World.cell?, h]

theorem frozen_of_heap {w : World} {g : Nat} {cur : Array Value} {e : TypeId} (h : w.heap[g]? = some (.cells cur e (0, 0))) (j : Nat) : w.frozen? ⟨g, j, none⟩ = false := by
  simp [World.frozen?, h]

theorem heap_setCell_self {w : World} {g : Nat} {cur : Array Value} {e : TypeId} {fr : Nat × Nat} (h : w.heap[g]? = some (.cells cur e fr)) (j : Nat) (v : Value) :
    (w.setCell ⟨g, j, none⟩ v).heap[g]? = some (.cells (cur.setIfInBounds j v) e fr) := by
  simp [World.setCell, Array.getElem?_modify, h]

theorem heap_setCell_other {w : World} {g : Nat} {o : Obj} (h : w.heap[g]? = some o) (p : Addr) (v : Value) (hp : p.block ≠ g) :
    (w.setCell p v).heap[g]? = some o := by
  rw [Below.heap_setCell _ _ _ _ (fun e => hp e.symm)]; exact h

theorem heap_alloc_old' {w : World} {g : Nat} {o : Obj} (h : w.heap[g]? = some o) (x : Obj) : (w.alloc x).heap[g]? = some o := by
  rw [Below.heap_alloc _ _ _ (lt_of_heap h)]; exact h

/-- n times one value (a definition: the walk does not open it). -/
def reps (z : Value) (n : Nat) : Array Value := Array.replicate n z

theorem size_reps (z : Value) (n : Nat) : (reps z n).size = n := by simp [reps]
theorem get_reps (z : Value) {n j : Nat} (h : j < n) : (reps z n)[j]? = some z := by simp [reps, h]

theorem madeCells_one (z : Value) (n : Nat) : madeCells #[z] n = reps z n := by
  unfold reps
  apply Array.ext
  · simp [madeCells]
  · intro i h1 h2
    simp [madeCells, Nat.mod_one]

/-- 'make([]T, n, c)' of one-cell elements: the new block written out. -/
theorem wpList_make_any {P : Program} (w : World) {ops : Array Oper} {rest : List Oper} {o : Oper} {a : Act} {Q : Exit → Act → World → Prop}
    (hg : o.guard = none) (l c : Operand) (t : TypeId) (hop : o.op = Op.makeSlice t l c)
    (e : TypeId) (i : TypeInfo) (z : Value) (bytes : Nat) (h1 : P.underlying t = some (.slice e)) (h2 : P.info? e = some i) (h3 : i.zero = some z) (h4 : i.size = 1) (h5 : i.bytes = bytes) (hz : z.cells = #[z])
    (kl kc : IntKind) (L C : Int) (n m : Nat) (hl : a.eval l = .int kl L) (hc : a.eval c = .int kc C) (hL : L = (n : Int)) (hC : C = (m : Int)) (hnm : n ≤ m) (b2 : bytes * m ≤ 281474976710656) (b3 : m ≤ 9223372036854775807)
    (hK : wpList P ops Q rest (a.put o.dst (.slice (some ⟨w.heap.size, 0, none⟩) n m)) (w.alloc (.cells (reps z m) e))) :
    wpList P ops Q (o :: rest) a w := by
  refine wpList_plain hg fun K hK' => ?_
  subst hL hC h5
  have hr := run_make (P := P) w t e i z h1 h2 h3 kl kc n m (by omega) (by omega) (by rw [← Int.natCast_mul]; omega) (by omega)
  simp only [Int.toNat_natCast, h4, Nat.mul_one, hz, madeCells_one] at hr
  unfold Oper.wp
  simp [execOp, hop, hl, hc, hr, Result.andThen]
  exact hK' _ _ hK

theorem Tryz.info88 : (Tryz.prog.info? 88).map (fun i => (i.zero, i.size, i.bytes)) = some (some (.int .u64 0), 1, 8) := by kernel_rfl
theorem Tryz.info23 : (Tryz.prog.info? 23).map (fun i => (i.zero, i.size, i.bytes)) = some (some (.int .u64 0), 1, 8) := by kernel_rfl
theorem Tryz.info3 : (Tryz.prog.info? 3).map (fun i => (i.zero, i.size, i.bytes)) = some (some (.int .i64 0), 1, 8) := by kernel_rfl
theorem Tryz.info5 : (Tryz.prog.info? 5).map (fun i => (i.zero, i.size, i.bytes)) = some (some (.int .u8 0), 1, 1) := by kernel_rfl

/-- Block g is a row of c cells of element type e, not frozen, the first n of which are f 0, f 1, .. -/
def Row (w : World) (g : Nat) (e : TypeId) (c : Nat) (f : Nat → Value) (n : Nat) : Prop :=
  ∃ cur, w.heap[g]? = some (.cells cur e (0, 0)) ∧ cur.size = c ∧ ∀ j, j < n → cur[j]? = some (f j)

section
variable {w w' : World} {g c n : Nat} {e : TypeId} {f : Nat → Value}

theorem Row.lt (h : Row w g e c f n) : g < w.heap.size := let ⟨_, h, _⟩ := h; lt_of_heap h
theorem Row.le (h : Row w g e c f n) : n ≤ c := by
  obtain ⟨cur, h1, h2, h3⟩ := h
  rcases Nat.lt_or_ge c n with hl | hl
  · have := h3 c hl
    rw [Array.getElem?_eq_none (by omega)] at this
    cases this
  · exact hl
theorem Row.cell (h : Row w g e c f n) {j : Nat} (hj : j < n) : w.cell? ⟨g, j, none⟩ = some (f j) := by
  obtain ⟨cur, h1, h2, h3⟩ := h
  rw [cell_of_heap h1, h3 j hj]
theorem Row.has (h : Row w g e c f n) {j : Nat} (hj : j < c) : ∃ v, w.cell? ⟨g, j, none⟩ = some v := by
  obtain ⟨cur, h1, h2, h3⟩ := h
  exact ⟨cur[j]'(by omega), by rw [cell_of_heap h1]; simp⟩
theorem Row.free (h : Row w g e c f n) (j : Nat) : w.frozen? ⟨g, j, none⟩ = false := by
  obtain ⟨cur, h1, h2, h3⟩ := h
  exact frozen_of_heap h1 j
theorem Row.kept {bs : List Nat} (h : Row w g e c f n) (k : Kept bs w w') (hn : g ∉ bs) : Row w' g e c f n := by
  obtain ⟨cur, h1, h2, h3⟩ := h
  exact ⟨cur, k.heap h1 hn, h2, h3⟩
theorem Row.alloc (h : Row w g e c f n) (o : Obj) : Row (w.alloc o) g e c f n := h.kept (bs := []) ((Kept.refl _ _).alloc o) (by simp)
theorem Row.congr {f' : Nat → Value} {m : Nat} (h : Row w g e c f n) (hm : m ≤ n) (hf : ∀ j, j < m → f j = f' j) : Row w g e c f' m := by
  obtain ⟨cur, h1, h2, h3⟩ := h
  exact ⟨cur, h1, h2, fun j hj => by rw [h3 j (by omega), hf j hj]⟩
theorem Row.store (h : Row w g e c f n) (j : Nat) (v : Value) {f' : Nat → Value} {m : Nat} (hj : j < c) (hm : ∀ i, i < m → i = j ∨ i < n) (h0 : j < m → f' j = v) (hf : ∀ i, i < m → i ≠ j → f' i = f i) :
    Row (w.setCell ⟨g, j, none⟩ v) g e c f' m := by
  obtain ⟨cur, h1, h2, h3⟩ := h
  refine ⟨cur.setIfInBounds j v, heap_setCell_self h1 j v, by simpa using h2, fun i hi => ?_⟩
  by_cases hij : i = j
  · subst hij
    rw [h0 hi, Array.getElem?_setIfInBounds_self_of_lt (by omega)]
  · rw [Array.getElem?_setIfInBounds_ne (fun e => hij e.symm), hf i hi hij]
    exact h3 i (by rcases hm i hi with h | h; exact absurd h hij; exact h)
end

theorem Row.made (w : World) (z : Value) (n : Nat) (e : TypeId) : Row (w.alloc (.cells (reps z n) e)) w.heap.size e n (fun _ => z) n :=
  ⟨_, heap_alloc_new w _, size_reps z n, fun j hj => get_reps z hj⟩

/-- A row of words. -/
abbrev WRow (w : World) (g c : Nat) (x : Nat → Nat) (n : Nat) : Prop := Row w g 88 c (fun j => .int .u64 (x j : Nat)) n
/-- A row of bytes. -/
abbrev BRow (w : World) (g c : Nat) (x : Nat → Nat) (n : Nat) : Prop := Row w g 5 c (fun j => .int .u8 (x j : Nat)) n

/-- v is a nat of n words x 0, x 1, .. (the lowest first): nil, or a slice at the head of a row of its own, whose block is B or later. -/
def NatV (B : Nat) (w : World) (v : Value) (n : Nat) (x : Nat → Nat) : Prop :=
  (v = .slice none 0 0 ∧ n = 0) ∨ ∃ g c, v = .slice (some ⟨g, 0, none⟩) n c ∧ B ≤ g ∧ n ≤ c ∧ c ≤ 9223372036854775807 ∧ WRow w g c x n

theorem NatV.alloc {B n : Nat} {w : World} {v : Value} {x : Nat → Nat} (h : NatV B w v n x) (o : Obj) : NatV B (w.alloc o) v n x := by
  rcases h with h | ⟨g, c, h1, h2, h3, h4, h5⟩
  · exact .inl h
  · exact .inr ⟨g, c, h1, h2, h3, h4, h5.alloc o⟩
theorem NatV.drew {B n : Nat} {w : World} {v : Value} {x : Nat → Nat} (h : NatV B w v n x) : NatV B w.drew v n x := h
theorem NatV.mono {B B' n : Nat} {w : World} {v : Value} {x : Nat → Nat} (h : NatV B w v n x) (hB : B' ≤ B) : NatV B' w v n x := by
  rcases h with h | ⟨g, c, h1, h2, h3, h4, h5⟩
  · exact .inl h
  · exact .inr ⟨g, c, h1, by omega, h3, h4, h5⟩
theorem NatV.shape {B n : Nat} {w : World} {v : Value} {x : Nat → Nat} (h : NatV B w v n x) : ∃ ao c, v = .slice ao n c := by
  rcases h with ⟨h, rfl⟩ | ⟨g, c, h, _⟩
  · exact ⟨_, _, h⟩
  · exact ⟨_, _, h⟩
theorem NatV.kept {B n : Nat} {w w' : World} {v : Value} {x : Nat → Nat} {bs : List Nat} (h : NatV B w v n x) (k : Kept bs w w') (hb : ∀ b ∈ bs, b < B ∨ ∀ ao c, v = .slice ao n c → ∀ a, ao = some a → a.block ≠ b) : NatV B w' v n x := by
  rcases h with h | ⟨g, c, h1, h2, h3, h4, h5⟩
  · exact .inl h
  · refine .inr ⟨g, c, h1, h2, h3, h4, h5.kept k fun hm => ?_⟩
    rcases hb g hm with hb | hb
    · omega
    · exact hb _ _ h1 _ rfl rfl

/-- A nat's row is no block of another kind: it stays where such a block alone is written. -/
theorem NatV.store {B n : Nat} {w w' : World} {v : Value} {x : Nat → Nat} {b : Nat} {c : Array Value} {t : TypeId} {fr : Nat × Nat} (h : NatV B w v n x) (hb : w.heap[b]? = some (.cells c t fr)) (ht : t ≠ 88) (k : Kept [b] w w') : NatV B w' v n x := by
  rcases h with h | ⟨g, c', h1, h2, h3, h4, h5⟩
  · exact .inl h
  · refine .inr ⟨g, c', h1, h2, h3, h4, h5.kept k fun hm => ?_⟩
    obtain ⟨cur, hg, _⟩ := h5
    have : g = b := by simpa using hm
    subst this
    rw [hg] at hb
    cases hb
    exact ht rfl

theorem run_neq_ptr_other {P : Program} (w : World) {tp te : TypeId} {j : TypeInfo} {a b : Addr} {ca cb : Array Value} {ta tb : TypeId} (hp : P.underlying tp = some (.pointer te)) (hte : P.info? te = some j) (hsz : j.size ≠ 0)
    (hne : a ≠ b) (ha : w.heap[a.block]? = some (.cells ca ta (0, 0))) (hb : w.heap[b.block]? = some (.cells cb tb (0, 0))) :
    (binOp .neq tp (.pointer (some a)) (.pointer (some b))).run P w = .ok (.bool true) w := by
  have h : ∀ d : Nat, (Op.equalIn (d + 1) tp (.pointer (some a)) (.pointer (some b))).run P w = .ok false w := fun d => by
    simp [Op.equalIn, run_underlying hp, sizeOf, typeInfo, hte, hsz, run_sameAddr_other w hne ha hb]
  simp only [binOp]
  simp [Op.equal, Op.maxDepth, h 9999]

theorem Tryz.sz65 : (Tryz.prog.info? 65).map (·.size) = some 2 := by kernel_rfl
theorem Tryz.sz67 : (Tryz.prog.info? 67).map (·.size) = some 3 := by kernel_rfl
theorem Tryz.sz69 : (Tryz.prog.info? 69).map (·.size) = some 6 := by kernel_rfl
theorem Tryz.size88 : (Tryz.prog.info? 88).map (·.size) = some 1 := by kernel_rfl
theorem info_of_size {P : Program} {t : TypeId} {n : Nat} (h : (P.info? t).map (·.size) = some (n + 1)) : ∃ j, P.info? t = some j ∧ j.size ≠ 0 := by
  obtain ⟨j, h1, h2⟩ := Option.map_eq_some_iff.1 h
  exact ⟨j, h1, by omega⟩

/-- Two stores into one block, behind what keeps it. -/
theorem two_stores {w w1 : World} {b : Nat} {c : Array Value} {t : TypeId} (hk : Kept [] w w1) (hb : w.heap[b]? = some (.cells c t (0, 0))) (i j : Nat) (u v : Value) :
    Kept [b] w ((w1.setCell ⟨b, i, none⟩ u).setCell ⟨b, j, none⟩ v) ∧
    ((w1.setCell ⟨b, i, none⟩ u).setCell ⟨b, j, none⟩ v).heap[b]? = some (.cells ((c.setIfInBounds i u).setIfInBounds j v) t (0, 0)) :=
  ⟨((hk.mono (by simp)).setCell _ _ (.inl (by simp))).setCell _ _ (.inl (by simp)), heap_setCell_self (heap_setCell_self (hk.heap hb (by simp)) i u) j v⟩

/-- The cells of a row behind a copy. -/
theorem wpList_copy_row {P : Program} {w : World} {ops : Array Oper} {rest : List Oper} {o : Oper} {a : Act} {Q : Exit → Act → World → Prop} (hgd : o.guard = none) (d s : Operand) (dT sT : TypeId)
    (ho : o.op = .call { callee := .builtin .copy, args := #[d, s], argTypes := #[dT, sT] }) (elem : TypeId) (hu : P.underlying dT = some (.slice elem)) (hsz : (P.info? elem).map (·.size) = some 1)
    (g dLen dCap : Nat) (ad : Addr) (sLen sCap : Nat) (hd : a.eval d = .slice (some ⟨g, 0, none⟩) dLen dCap) (hs : a.eval s = .slice (some ad) sLen sCap)
    (e : TypeId) (c m k : Nat) (f f' : Nat → Value) (hR : Row w g e c f m) (hk : Nat.min sLen dLen = k) (hfit : k ≤ c)
    (hsrc : ∀ j, j < k → w.cell? (ad.add j) = some (f' j)) (h1 : ∀ j, j < k → (f' j).oneCell' = true)
    (h : ∀ w', Hid (Row w' g e c f' k) → Kept [g] w w' → wpList P ops Q rest (a.put o.dst (goInt k)) w') : wpList P ops Q (o :: rest) a w := by
  obtain ⟨cur, hg, hc, hcur⟩ := hR
  have hlen : ((List.range k).map f').length = k := by simp
  refine wpList_copy_own hgd d s dT sT ho elem hu hsz g 0 dLen dCap ad sLen sCap hd hs cur e hg ((List.range k).map f') (by rw [hlen, hk]) ?_ (by rw [hlen]; omega) ?_ ?_
  · intro j v hj
    have hjk : j < k := by
      have := (List.getElem?_eq_some_iff.1 hj).1
      simpa using this
    simp [hjk] at hj
    rw [hsrc j hjk, hj]
  · intro v hv
    simp at hv
    obtain ⟨j, hj, rfl⟩ := hv
    exact h1 j hj
  · rw [hlen]
    refine h _ (hid ⟨_, setRow_heap w g cur _ e _ hg, ?_, ?_⟩) ?_
    · simp; omega
    · intro j hj
      simp
      rw [List.getElem?_append_left (by simpa using hj)]
      simp [hj]
    · exact ⟨rfl, rfl, rfl, by simp [World.setRow], fun i hi hn => setRow_other w g i _ (by simpa using hn)⟩
end

section
open Go.RowKit

def NormAt (x : Nat → Nat) (l n : Nat) : Prop := n ≤ l ∧ (n = 0 ∨ x (n - 1) ≠ 0) ∧ ∀ j, n ≤ j → j < l → x j = 0

theorem norm_any (b off l c : Nat) (x : Nat → Nat) (w : World) (hl : l ≤ c) (hc : c ≤ 9223372036854775807)
    (hcell : ∀ j, j < l → w.cell? ⟨b, off + j, none⟩ = some (.int .u64 (x j))) :
    Calls Tryz.prog 46 #[.slice (some ⟨b, off, none⟩) l c] w fun e w' => ∃ n, NormAt x l n ∧ e = .returned (.slice (some ⟨b, off, none⟩) n c) ∧ w' = w := by
  go_enter Tryz.func46, Tryz.ntmps46
  go_wp2
  go_loop [3] (fun v => ∃ i : Nat, i ≤ l ∧ v = .int .i64 i ∧ Hid (∀ j, i ≤ j → j < l → x j = 0)) (fun v => (intOf v).toNat)
  case atStart => exact ⟨l, Nat.le_refl _, rfl, fun j _ _ => by omega⟩
  case round =>
    obtain ⟨i, hi, rfl, HZ⟩ := hrel
    by_cases h0 : 0 < i
    · have hci := hcell (i - 1) (by omega)
      go_wp2
      · have h : ((x (i - 1) : Int) == 0) = true := by assumption
        go_round
        case rel => exact ⟨i - 1, by omega, by go_num, fun j hj hl => by
          by_cases e : j = i - 1
          · subst e; simpa using h
          · exact HZ.out j (by omega) hl⟩
        case measure => simp [intOf]; omega
      · have h : ((x (i - 1) : Int) == 0) = false := by assumption
        go_ret
        exact ⟨i, ⟨hi, Or.inr (by simpa using h), HZ.out⟩, rfl, rfl⟩
    · obtain rfl : i = 0 := by omega
      go_wp2
      go_ret
      exact ⟨0, ⟨hi, Or.inl rfl, HZ.out⟩, rfl, rfl⟩

theorem norm_empty (ao : Option Addr) (c : Nat) (w : World) (hc : c ≤ 9223372036854775807) :
    Calls Tryz.prog 46 #[.slice ao 0 c] w fun e w' => e = .returned (.slice ao 0 c) ∧ w' = w := by
  go_enter Tryz.func46, Tryz.ntmps46
  go_wp2
  refine wp_loop_rounds 1 ?_; rw [rounds_succ]
  go_wp2
  go_ret
  exact ⟨rfl, rfl⟩

theorem make_reuse (ao : Option Addr) (l c n : Nat) (w : World) (h : n ≤ c) (hc : c ≤ 9223372036854775807) :
    Calls Tryz.prog 58 #[.slice ao l c, .int .i64 n] w fun e w' => e = .returned (.slice ao n c) ∧ w' = w := by
  go_enter Tryz.func58, Tryz.ntmps58
  go_wp2
  go_ret
  exact ⟨rfl, rfl⟩

theorem make_one (ao : Option Addr) (l : Nat) (w : World) :
    Calls Tryz.prog 58 #[.slice ao l 0, .int .i64 1] w fun e w' => e = .returned (.slice (some ⟨w.heap.size, 0, none⟩) 1 1) ∧ w' = w.alloc (.cells (reps (.int .u64 0) 1) 88) := by
  obtain ⟨i0, hi, hz0, hz1, hz2⟩ := info_parts Tryz.info88
  go_enter Tryz.func58, Tryz.ntmps58
  go_wp2_with (at_make; refine wpList_make_any _ rfl _ _ 63 rfl 88 i0 (.int .u64 0) 8 Tryz.underlying63 hi hz0 hz1 hz2 rfl .i64 .i64 _ _ 1 1 rfl rfl rfl rfl (by omega) (by omega) (by omega) ?_)
  go_ret
  exact ⟨rfl, rfl⟩

theorem make_new (ao : Option Addr) (l c n : Nat) (w : World) (h : c < n) (h2 : n ≠ 1) (hn : n ≤ 900000) :
    Calls Tryz.prog 58 #[.slice ao l c, .int .i64 n] w fun e w' => e = .returned (.slice (some ⟨w.heap.size, 0, none⟩) n (n + 4 : Nat)) ∧ w' = w.alloc (.cells (reps (.int .u64 0) (n + 4)) 88) := by
  have h1 : ((n : Int) == 1) = false := by simpa using (by omega : ¬ (n : Int) = 1)
  obtain ⟨i0, hi, hz0, hz1, hz2⟩ := info_parts Tryz.info88
  go_enter Tryz.func58, Tryz.ntmps58
  go_wp2_with (at_make; refine wpList_make_any _ rfl _ _ 63 rfl 88 i0 (.int .u64 0) 8 Tryz.underlying63 hi hz0 hz1 hz2 rfl .i64 .i64 _ _ n (n + 4) rfl rfl rfl rfl (by omega) (by omega) (by omega) ?_)
  go_ret
  exact ⟨rfl, rfl⟩

/-- nat.make(n): n words at the head of a row of at least n; a new row, or z's own. -/
theorem make_any (ao : Option Addr) (l c n : Nat) (w : World) (h : c < n) (hn : n ≤ 900000) :
    Calls Tryz.prog 58 #[.slice ao l c, .int .i64 n] w fun e w' => ∃ m, n ≤ m ∧ m ≤ n + 4 ∧ e = .returned (.slice (some ⟨w.heap.size, 0, none⟩) n m) ∧ w' = w.alloc (.cells (reps (.int .u64 0) m) 88) := by
  by_cases h2 : n = 1
  · subst h2
    obtain rfl : c = 0 := by omega
    exact (make_one ao l w).mono fun e w' ⟨h1, h2⟩ => ⟨1, by omega, by omega, h1, h2⟩
  · exact (make_new ao l c n w h h2 hn).mono fun e w' ⟨h1, h2⟩ => ⟨n + 4, by omega, by omega, h1, h2⟩


/-- nat.set of what has a word, onto nil. -/
theorem set_pos (ao : Option Addr) (l n c m g : Nat) (x : Nat → Nat) (w : World) (h0 : 0 < n) (hn : n ≤ 900000) (hc : n ≤ c) (hcc : c ≤ 9223372036854775807) (hx : WRow w g m x n) :
    Calls Tryz.prog 45 #[.slice ao l 0, .slice (some ⟨g, 0, none⟩) n c] w fun e w' =>
      ∃ c', n ≤ c' ∧ c' ≤ n + 4 ∧ e = .returned (.slice (some ⟨w.heap.size, 0, none⟩) n c') ∧ WRow w' w.heap.size c' x n ∧ Kept [] w w' := by
  go_enter Tryz.func45, Tryz.ntmps45
  go_wp2_with fail
  refine (make_any _ _ _ n _ (by omega) hn).mono ?_
  rintro e w' ⟨m', h1, h2, rfl, rfl⟩
  have hR := Row.made w (.int .u64 0) m' 88
  have HS : Hid (∀ j, j < n → (w.alloc (.cells (reps (.int .u64 0) m') 88)).cell? ((⟨g, 0, none⟩ : Addr).add j) = some (.int .u64 (x j : Nat))) := by
    intro j hj
    have := (hx.alloc (.cells (reps (.int .u64 0) m') 88)).cell hj
    rw [Addr.add_lit, Nat.zero_add]
    exact this
  go_wp2_with (with_reducible refine wpList_copy_row rfl (.tmp 9) (.tmp 10) 63 63 rfl 88 Tryz.underlying63 Tryz.size88 w.heap.size n m' ⟨g, 0, none⟩ n c rfl rfl 88 m' m' n (fun _ => .int .u64 0) (fun j => .int .u64 (x j : Nat)) hR (Nat.min_self n) h1 HS.out (fun _ _ => rfl) ?_)
  intro w2 HR2 hk
  go_wp2
  go_ret
  exact ⟨m', h1, h2, rfl, HR2.out, ((Kept.refl [] w).alloc _).trans hk (by simp) (by simp)⟩

theorem set_zero (ao : Option Addr) (c : Nat) (w : World) (hc : c ≤ 9223372036854775807) :
    Calls Tryz.prog 45 #[.slice none 0 0, .slice ao 0 c] w fun e w' => e = .returned (.slice none 0 0) ∧ w' = w := by
  go_enter Tryz.func45, Tryz.ntmps45
  go_wp2_with fail
  refine (make_reuse _ _ _ 0 _ (by omega) (by omega)).mono ?_
  rintro e w' ⟨rfl, rfl⟩
  go_wp2_with (with_reducible refine wpList_copy_nothing rfl (.tmp 9) (.tmp 10) 63 63 rfl 88 Tryz.underlying63 Tryz.size88 none ao 0 0 0 c rfl rfl rfl ?_)
  go_ret
  exact ⟨rfl, rfl⟩

/-- nat.set onto nil: a copy in a new row. -/
theorem set_any (v : Value) (n : Nat) (x : Nat → Nat) (w : World) (hn : n ≤ 900000) (hx : NatV 0 w v n x) :
    Calls Tryz.prog 45 #[.slice none 0 0, v] w fun e w' => ∃ v', e = .returned v' ∧ NatV w.heap.size w' v' n x ∧ Kept [] w w' := by
  rcases hx with ⟨rfl, rfl⟩ | ⟨g, c, rfl, _, hnc, hc, hR⟩
  · exact (set_zero none 0 w (by omega)).mono fun e w' ⟨h1, h2⟩ => ⟨_, h1, .inl ⟨rfl, rfl⟩, by subst h2; exact Kept.refl _ _⟩
  · by_cases h0 : n = 0
    · subst h0
      exact (set_zero _ c w hc).mono fun e w' ⟨h1, h2⟩ => ⟨_, h1, .inl ⟨rfl, rfl⟩, by subst h2; exact Kept.refl _ _⟩
    · exact (set_pos none 0 n c c g x w (by omega) hn hnc hc hR).mono fun e w' ⟨c', h1, h2, h3, h4, h5⟩ =>
        ⟨_, h3, .inr ⟨_, c', rfl, Nat.le_refl _, h1, by omega, h4⟩, h5⟩
end

section
open Go.RowKit

/-- Int.Set of another Int, onto a nil one. -/
theorem intSet_walk (bz oz bx ox n : Nat) (zneg xneg : Bool) (xabs : Value) (cz cx : Array Value) (tz tx : TypeId) (x : Nat → Nat) (w : World) (hne : bz ≠ bx) (hn : n ≤ 900000)
    (hbz : w.heap[bz]? = some (.cells cz tz (0, 0))) (hz0 : cz[oz]? = some (.bool zneg)) (hz1 : cz[oz + 1]? = some (.slice none 0 0))
    (hbx : w.heap[bx]? = some (.cells cx tx (0, 0))) (hx0 : cx[ox]? = some (.bool xneg)) (hx1 : cx[ox + 1]? = some xabs) (hx : NatV 0 w xabs n x) :
    Calls Tryz.prog 33 #[.pointer (some ⟨bz, oz, none⟩), .pointer (some ⟨bx, ox, none⟩)] w fun e w' =>
      e = .returned (.pointer (some ⟨bz, oz, none⟩)) ∧ ∃ v' w1, NatV w.heap.size w1 v' n x ∧ Kept [] w w1 ∧ w' = (w1.setCell ⟨bz, oz + 1, none⟩ v').setCell ⟨bz, oz, none⟩ (.bool xneg) := by
  obtain ⟨ao, c, rfl⟩ := hx.shape
  obtain ⟨j, hj1, hj2⟩ := info_of_size Tryz.sz65
  have hq := run_neq_ptr_other (P := Tryz.prog) w (tp := 86) (a := ⟨bz, oz, none⟩) (b := ⟨bx, ox, none⟩) Tryz.underlying86 hj1 hj2 (fun h => hne (congrArg Addr.block h)) hbz hbx
  have z0 := (cell_of_heap hbz oz).trans hz0
  have z1 := (cell_of_heap hbz (oz + 1)).trans hz1
  have x0 := (cell_of_heap hbx ox).trans hx0
  have x1 := (cell_of_heap hbx (ox + 1)).trans hx1
  have fz0 := frozen_of_heap hbz oz
  have fz1 := frozen_of_heap hbz (oz + 1)
  have HZ := hid hbz
  clear hbz hbx hz0 hz1 hx0 hx1 hj1 hj2
  go_enter Tryz.func33, Tryz.ntmps33
  go_wp2_with fail
  go_region_with
    (first | (go_at_call 45; refine (set_any _ n x _ hn hx.drew).mono ?_; rintro e w' ⟨v', rfl, hv', hk⟩; obtain ⟨ao', c', rfl⟩ := hv'.shape; have k3 := (hk.frozen (p := ⟨bz, oz + 1, none⟩) (lt_of_heap (w := w) HZ.out) List.not_mem_nil).trans fz1; have k1 := hk.cellOf (w := w.drew) z1 List.not_mem_nil; have k2 := hk.cellOf (w := w.drew) x1 List.not_mem_nil))
  all_goals
    have k4 := hk.cellOf (w := w.drew) x0 List.not_mem_nil
    have k5 := hk.cellOf (w := w.drew) z0 List.not_mem_nil
    have k6 := (hk.frozen (p := ⟨bz, oz, none⟩) (lt_of_heap (w := w) HZ.out) List.not_mem_nil).trans fz0
    go_wp2
    go_ret
    exact ⟨rfl, _, _, hv', hk.ofDrew, rfl⟩

theorem intSet_any (bz oz bx ox n : Nat) (zneg xneg : Bool) (xabs : Value) (cz cx : Array Value) (tz tx : TypeId) (x : Nat → Nat) (w : World) (hne : bz ≠ bx) (hn : n ≤ 900000)
    (hbz : w.heap[bz]? = some (.cells cz tz (0, 0))) (hz0 : cz[oz]? = some (.bool zneg)) (hz1 : cz[oz + 1]? = some (.slice none 0 0))
    (hbx : w.heap[bx]? = some (.cells cx tx (0, 0))) (hx0 : cx[ox]? = some (.bool xneg)) (hx1 : cx[ox + 1]? = some xabs) (hx : NatV 0 w xabs n x) :
    Calls Tryz.prog 33 #[.pointer (some ⟨bz, oz, none⟩), .pointer (some ⟨bx, ox, none⟩)] w fun e w' =>
      e = .returned (.pointer (some ⟨bz, oz, none⟩)) ∧ ∃ v', NatV w.heap.size w' v' n x ∧ Kept [bz] w w' ∧
        w'.heap[bz]? = some (.cells ((cz.setIfInBounds (oz + 1) v').setIfInBounds oz (.bool xneg)) tz (0, 0)) := by
  refine (intSet_walk bz oz bx ox n zneg xneg xabs cz cx tz tx x w hne hn hbz hz0 hz1 hbx hx0 hx1 hx).mono ?_
  rintro e w' ⟨he, v', w1, hv, hk, rfl⟩
  have hs := two_stores hk hbz (oz + 1) oz v' (.bool xneg)
  have hl := lt_of_heap hbz
  refine ⟨he, v', ?_, hs.1, hs.2⟩
  exact (hv.kept (((Kept.refl [bz] w1).setCell ⟨bz, oz + 1, none⟩ v' (.inl (by simp))).setCell ⟨bz, oz, none⟩ (.bool xneg) (.inl (by simp))) (by simpa using Or.inl hl))

theorem norm_nat (B l : Nat) (v : Value) (x : Nat → Nat) (w : World) (hx : NatV B w v l x) :
    Calls Tryz.prog 46 #[v] w fun e w' => ∃ n ao c, e = .returned (.slice ao n c) ∧ v = .slice ao l c ∧ NormAt x l n ∧ NatV B w (.slice ao n c) n x ∧ w' = w := by
  rcases hx with ⟨rfl, rfl⟩ | ⟨g, c, rfl, hB, hlc, hc, hR⟩
  · exact (norm_empty none 0 w (by omega)).mono fun e w' ⟨h1, h2⟩ => ⟨0, none, 0, h1, rfl, ⟨by omega, .inl rfl, fun j _ h => by omega⟩, .inl ⟨rfl, rfl⟩, h2⟩
  · refine (norm_any g 0 l c x w hlc (by omega) (fun j hj => by rw [Nat.zero_add]; exact hR.cell hj)).mono ?_
    rintro e w' ⟨n, hn, rfl, rfl⟩
    exact ⟨n, _, c, rfl, rfl, hn, .inr ⟨g, c, rfl, hB, by have := hn.1; omega, hc, hR.congr hn.1 fun _ _ => rfl⟩, rfl⟩

/-- Int.SetBits onto a new Int. -/
theorem setBits_walk (bz oz l : Nat) (zneg : Bool) (zabs : Value) (v : Value) (cz : Array Value) (tz : TypeId) (x : Nat → Nat) (w : World) (hl : l ≤ 900000)
    (hbz : w.heap[bz]? = some (.cells cz tz (0, 0))) (hz0 : cz[oz]? = some (.bool zneg)) (hz1 : cz[oz + 1]? = some zabs) (hx : NatV 0 w v l x) :
    Calls Tryz.prog 35 #[.pointer (some ⟨bz, oz, none⟩), v] w fun e w' =>
      e = .returned (.pointer (some ⟨bz, oz, none⟩)) ∧ ∃ n ao c, NormAt x l n ∧ NatV 0 w (.slice ao n c) n x ∧ w' = (w.setCell ⟨bz, oz + 1, none⟩ (.slice ao n c)).setCell ⟨bz, oz, none⟩ (.bool false) := by
  have z0 := (cell_of_heap hbz oz).trans hz0
  have z1 := (cell_of_heap hbz (oz + 1)).trans hz1
  have fz0 := frozen_of_heap hbz oz
  have fz1 := frozen_of_heap hbz (oz + 1)
  clear hbz hz0 hz1
  go_enter Tryz.func35, Tryz.ntmps35
  go_wp2_with fail
  refine (norm_nat 0 l v x w hx).mono ?_
  rintro e w' ⟨n, ao, c, rfl, hv, hn, hN, rfl⟩
  clear hv
  go_wp2
  go_ret
  exact ⟨rfl, n, ao, c, hn, hN, rfl⟩

theorem setBits_any (bz oz l : Nat) (zneg : Bool) (zabs : Value) (v : Value) (cz : Array Value) (tz : TypeId) (x : Nat → Nat) (w : World) (hl : l ≤ 900000)
    (hbz : w.heap[bz]? = some (.cells cz tz (0, 0))) (hz0 : cz[oz]? = some (.bool zneg)) (hz1 : cz[oz + 1]? = some zabs) (hx : NatV 0 w v l x) (ht : tz ≠ 88) :
    Calls Tryz.prog 35 #[.pointer (some ⟨bz, oz, none⟩), v] w fun e w' =>
      e = .returned (.pointer (some ⟨bz, oz, none⟩)) ∧ ∃ n v', NormAt x l n ∧ NatV 0 w' v' n x ∧ Kept [bz] w w' ∧
        w'.heap[bz]? = some (.cells ((cz.setIfInBounds (oz + 1) v').setIfInBounds oz (.bool false)) tz (0, 0)) := by
  refine (setBits_walk bz oz l zneg zabs v cz tz x w hl hbz hz0 hz1 hx).mono ?_
  rintro e w' ⟨he, n, ao, c, hn, hN, rfl⟩
  have hs := two_stores (Kept.refl [] w) hbz (oz + 1) oz (.slice ao n c) (.bool false)
  exact ⟨he, n, _, hn, hN.store hbz ht hs.1, hs.1, hs.2⟩

/-- BigInt.SetMathBigInt onto a new BigInt. -/
theorem setMath_any (bz oz bx ox n : Nat) (zneg xneg zm : Bool) (xabs : Value) (cz cx : Array Value) (tz tx : TypeId) (x : Nat → Nat) (w : World) (hne : bz ≠ bx) (hn : n ≤ 900000)
    (hbz : w.heap[bz]? = some (.cells cz tz (0, 0))) (hz0 : cz[oz]? = some (.bool zneg)) (hz1 : cz[oz + 1]? = some (.slice none 0 0)) (hz2 : cz[oz + 2]? = some (.bool zm))
    (hbx : w.heap[bx]? = some (.cells cx tx (0, 0))) (hx0 : cx[ox]? = some (.bool xneg)) (hx1 : cx[ox + 1]? = some xabs) (hx : NatV 0 w xabs n x) (ht : tz ≠ 88) :
    Calls Tryz.prog 34 #[.pointer (some ⟨bz, oz, none⟩), .pointer (some ⟨bx, ox, none⟩)] w fun e w' =>
      e = .returned (.pointer (some ⟨bz, oz, none⟩)) ∧ ∃ v', NatV w.heap.size w' v' n x ∧ Kept [bz] w w' ∧
        w'.heap[bz]? = some (.cells (((cz.setIfInBounds (oz + 2) (.bool false)).setIfInBounds (oz + 1) v').setIfInBounds oz (.bool xneg)) tz (0, 0)) := by
  have z2 := (cell_of_heap hbz (oz + 2)).trans hz2
  have fz2 := frozen_of_heap hbz (oz + 2)
  have h1 := heap_setCell_self hbz (oz + 2) (.bool false)
  have h2 := heap_setCell_other hbx ⟨bz, oz + 2, none⟩ (.bool false) hne
  have HZ := hid h1
  have HX := hid h2
  have C0 := hid ((Array.getElem?_setIfInBounds_ne (xs := cz) (i := oz + 2) (j := oz) (by omega)).trans hz0 : (cz.setIfInBounds (oz + 2) (.bool false))[oz]? = _)
  have C1 := hid ((Array.getElem?_setIfInBounds_ne (xs := cz) (i := oz + 2) (j := oz + 1) (by omega)).trans hz1 : (cz.setIfInBounds (oz + 2) (.bool false))[oz + 1]? = _)
  have X0 := hid hx0
  have X1 := hid hx1
  have HN := hid (hx.store hbz ht ((Kept.refl [bz] w).setCell ⟨bz, oz + 2, none⟩ (.bool false) (.inl (by simp))))
  clear hbz hbx h1 h2 hz0 hz1 hz2 hx0 hx1
  go_enter Tryz.func34, Tryz.ntmps34
  go_wp2_with fail
  refine (intSet_any bz oz bx ox n zneg xneg xabs _ cx tz tx x _ hne hn HZ.out C0.out C1.out HX.out X0.out X1.out HN.out).mono ?_
  rintro e w' ⟨rfl, v', hv', hk, hb⟩
  have HB := hid hb
  clear hb
  go_wp2
  go_ret
  exact ⟨rfl, v', by simpa using hv', ((Kept.refl [bz] w).setCell ⟨bz, oz + 2, none⟩ (.bool false) (.inl (by simp))).trans hk (by simp) (by simp), HB.out⟩
end

section
open Go.RowKit

theorem get_set_ne {c : Array Value} {i j : Nat} {u v : Value} (h : i ≠ j) (hc : c[j]? = some v) : (c.setIfInBounds i u)[j]? = some v :=
  (Array.getElem?_setIfInBounds_ne h).trans hc

/-- BigInt.Set onto a new BigInt. -/
theorem bigSet_any (bz oz bx ox n : Nat) (zneg xneg zm xm : Bool) (xabs : Value) (cz cx : Array Value) (tz tx : TypeId) (x : Nat → Nat) (w : World) (hne : bz ≠ bx) (hn : n ≤ 900000)
    (hbz : w.heap[bz]? = some (.cells cz tz (0, 0))) (hz0 : cz[oz]? = some (.bool zneg)) (hz1 : cz[oz + 1]? = some (.slice none 0 0)) (hz2 : cz[oz + 2]? = some (.bool zm))
    (hbx : w.heap[bx]? = some (.cells cx tx (0, 0))) (hx0 : cx[ox]? = some (.bool xneg)) (hx1 : cx[ox + 1]? = some xabs) (hx2 : cx[ox + 2]? = some (.bool xm)) (hx : NatV 0 w xabs n x) (ht : tz ≠ 88) :
    Calls Tryz.prog 25 #[.pointer (some ⟨bz, oz, none⟩), .pointer (some ⟨bx, ox, none⟩)] w fun e w' =>
      e = .returned (.pointer (some ⟨bz, oz, none⟩)) ∧ ∃ v', NatV w.heap.size w' v' n x ∧ Kept [bz] w w' ∧
        w'.heap[bz]? = some (.cells (((cz.setIfInBounds (oz + 2) (.bool xm)).setIfInBounds (oz + 1) v').setIfInBounds oz (.bool xneg)) tz (0, 0)) := by
  have z2 := (cell_of_heap hbz (oz + 2)).trans hz2
  have x2 := (cell_of_heap hbx (ox + 2)).trans hx2
  have fz2 := frozen_of_heap hbz (oz + 2)
  have hk0 := (Kept.refl [bz] w).setCell ⟨bz, oz + 2, none⟩ (.bool xm) (.inl (by simp))
  have HZ := hid (heap_setCell_self hbz (oz + 2) (.bool xm))
  have HX := hid (heap_setCell_other hbx ⟨bz, oz + 2, none⟩ (.bool xm) hne)
  have C0 := hid (get_set_ne (i := oz + 2) (u := .bool xm) (by omega) hz0)
  have C1 := hid (get_set_ne (i := oz + 2) (u := .bool xm) (by omega) hz1)
  have X0 := hid hx0
  have X1 := hid hx1
  have HN := hid (hx.store hbz ht hk0)
  have HK := hid hk0
  clear hbz hbx hz0 hz1 hz2 hx0 hx1 hx2 hk0
  go_enter Tryz.func25, Tryz.ntmps25
  go_wp2_with fail
  go_region_with
    (first | (go_at_call 33; refine (intSet_any bz oz bx ox n zneg xneg xabs _ cx tz tx x ((w.setCell ⟨bz, oz + 2, none⟩ (.bool xm)).drew) hne hn HZ.out C0.out C1.out HX.out X0.out X1.out HN.out.drew).mono ?_; rintro e w' ⟨rfl, v', hv', hk, hb⟩; have HB := hid hb; clear hb))
  go_wp2
  go_ret
  exact ⟨rfl, v', by simpa using hv', HK.out.trans hk.ofDrew (by simp) (by simp), HB.out⟩
end

section
open Go.RowKit

/-- v is a slice of n one-cell elements f 0, f 1, ..: nil, or at the head of a row of its own (of a block type that T allows), whose block is B or later. -/
def SV (T : TypeId → Prop) (B : Nat) (w : World) (v : Value) (n : Nat) (f : Nat → Value) : Prop :=
  (v = .slice none 0 0 ∧ n = 0) ∨ ∃ g c t, v = .slice (some ⟨g, 0, none⟩) n c ∧ B ≤ g ∧ n ≤ c ∧ c ≤ 9223372036854775807 ∧ T t ∧ Row w g t c f n

theorem SV.nil (T : TypeId → Prop) (B : Nat) (w : World) (f : Nat → Value) : SV T B w (.slice none 0 0) 0 f := .inl ⟨rfl, rfl⟩

theorem SV.nat {B : Nat} {w : World} {v : Value} {n : Nat} {x : Nat → Nat} (h : SV (· = 88) B w v n (fun j => .int .u64 (x j : Nat))) : NatV B w v n x := by
  rcases h with h | ⟨g, c, t, h1, h2, h3, h4, h5, h6⟩
  · exact .inl h
  · subst h5; exact .inr ⟨g, c, h1, h2, h3, h4, h6⟩
theorem NatV.sv {B : Nat} {w : World} {v : Value} {n : Nat} {x : Nat → Nat} (h : NatV B w v n x) : SV (· = 88) B w v n (fun j => .int .u64 (x j : Nat)) := by
  rcases h with h | ⟨g, c, h1, h2, h3, h4, h6⟩
  · exact .inl h
  · exact .inr ⟨g, c, 88, h1, h2, h3, h4, rfl, h6⟩

section
variable {T : TypeId → Prop} {B n : Nat} {w w' : World} {v : Value} {f : Nat → Value}

theorem SV.alloc (h : SV T B w v n f) (o : Obj) : SV T B (w.alloc o) v n f := by
  rcases h with h | ⟨g, c, t, h1, h2, h3, h4, h5, h6⟩
  · exact .inl h
  · exact .inr ⟨g, c, t, h1, h2, h3, h4, h5, h6.alloc o⟩
theorem SV.drew (h : SV T B w v n f) : SV T B w.drew v n f := h
theorem SV.shape (h : SV T B w v n f) : ∃ ao c, v = .slice ao n c := by
  rcases h with ⟨h, rfl⟩ | ⟨g, c, t, h, _⟩
  · exact ⟨_, _, h⟩
  · exact ⟨_, _, h⟩
theorem SV.mono {B' : Nat} (h : SV T B w v n f) (hB : B' ≤ B) : SV T B' w v n f := by
  rcases h with h | ⟨g, c, t, h1, h2, h3, h4, h5, h6⟩
  · exact .inl h
  · exact .inr ⟨g, c, t, h1, by omega, h3, h4, h5, h6⟩
theorem SV.weaken {T' : TypeId → Prop} (h : SV T B w v n f) (hT : ∀ t, T t → T' t) : SV T' B w v n f := by
  rcases h with h | ⟨g, c, t, h1, h2, h3, h4, h5, h6⟩
  · exact .inl h
  · exact .inr ⟨g, c, t, h1, h2, h3, h4, hT t h5, h6⟩
theorem SV.congr {f' : Nat → Value} (h : SV T B w v n f) (hf : ∀ j, j < n → f j = f' j) : SV T B w v n f' := by
  rcases h with h | ⟨g, c, t, h1, h2, h3, h4, h5, h6⟩
  · exact .inl h
  · exact .inr ⟨g, c, t, h1, h2, h3, h4, h5, h6.congr (Nat.le_refl _) hf⟩
theorem SV.kept {bs : List Nat} (h : SV T B w v n f) (k : Kept bs w w') (hb : ∀ b ∈ bs, v.ownBlock ≠ some b) : SV T B w' v n f := by
  rcases h with h | ⟨g, c, t, h1, h2, h3, h4, h5, h6⟩
  · exact .inl h
  · exact .inr ⟨g, c, t, h1, h2, h3, h4, h5, h6.kept k fun hm => hb g hm (by rw [h1]; rfl)⟩
theorem SV.cell (h : SV T B w v n f) {ao : Option Addr} {c : Nat} (hv : v = .slice ao n c) {j : Nat} (hj : j < n) : ∃ g, ao = some ⟨g, 0, none⟩ ∧ w.cell? ⟨g, j, none⟩ = some (f j) := by
  rcases h with ⟨h, rfl⟩ | ⟨g, c', t, h1, h2, h3, h4, h5, h6⟩
  · omega
  · subst h1
    cases hv
    exact ⟨g, rfl, h6.cell hj⟩
end

/-- The elements of an appended slice. -/
def appF (n : Nat) (f f' : Nat → Value) : Nat → Value := fun j => if j < n then f j else f' (j - n)

theorem range_map_get (f : Nat → Value) {n j : Nat} (h : j < n) : ((List.range n).map f)[j]? = some (f j) := by
  rw [List.getElem?_map, List.getElem?_range h]; rfl

theorem appF_get (f f' : Nat → Value) {n m j : Nat} (h : j < n + m) : ((List.range n).map f ++ (List.range m).map f')[j]? = some (appF n f f' j) := by
  unfold appF
  by_cases hj : j < n
  · rw [if_pos hj, List.getElem?_append_left (by simpa using hj), range_map_get f hj]
  · rw [if_neg hj, List.getElem?_append_right (by simp; omega), List.length_map, List.length_range, range_map_get f' (by omega)]

theorem row_setCells {w : World} {g : Nat} {cur : Array Value} {t : TypeId} : ∀ (vs : List Value) (w : World) (cur : Array Value) (k : Nat), w.heap[g]? = some (.cells cur t (0, 0)) → k + vs.length ≤ cur.size →
    ∃ cur', (w.setCells g k vs).heap[g]? = some (.cells cur' t (0, 0)) ∧ cur'.size = cur.size ∧ (∀ j, j < k → cur'[j]? = cur[j]?) ∧ (∀ j v, vs[j]? = some v → cur'[k + j]? = some v) ∧ Kept [g] w (w.setCells g k vs)
  | [], w, cur, k, hg, hl => ⟨cur, by simpa [World.setCells] using hg, rfl, fun _ _ => rfl, fun j v h => by simp at h, by simpa [World.setCells] using Kept.refl [g] w⟩
  | v :: vs, w, cur, k, hg, hl => by
    have hk : k < cur.size := by simp at hl; omega
    obtain ⟨cur', h1, h2, h3, h4, h5⟩ := row_setCells (w := w) (cur := cur) vs (w.setCell ⟨g, k, none⟩ v) (cur.setIfInBounds k v) (k + 1) (heap_setCell_self hg k v) (by simp at hl ⊢; omega)
    refine ⟨cur', by simpa [World.setCells] using h1, by simpa using h2, fun j hj => ?_, fun j u hj => ?_, ?_⟩
    · rw [h3 j (by omega), Array.getElem?_setIfInBounds_ne (by omega)]
    · match j, hj with
      | 0, hj =>
        simp at hj
        subst hj
        rw [Nat.add_zero, h3 k (by omega), Array.getElem?_setIfInBounds_self_of_lt hk]
      | j + 1, hj =>
        have := h4 j u (by simpa using hj)
        rwa [show k + 1 + j = k + (j + 1) by omega] at this
    · have := ((Kept.refl [g] w).setCell ⟨g, k, none⟩ v (.inl (by simp))).trans h5 (ds := [g]) (by simp) (by simp)
      simpa [World.setCells] using this

/-- 'append' onto such a slice, whatever is appended. -/
theorem run_append_sv {P : Program} (w : World) {T : TypeId → Prop} {B n m : Nat} {v x : Value} {f f' : Nat → Value} (t tx ty e : TypeId) (i : TypeInfo) (z : Value) (bytes : Nat)
    (ht : P.underlying t = some (.slice e)) (hi : P.info? e = some i) (hz : i.zero = some z) (hsize : i.size = 1) (hby : i.bytes = bytes) (hzs : z.cells.size = 1) (hT : T e)
    (hv : SV T B w v n f) (hs : Src P 1 tx x m ((List.range m).map f') w) (h63 : n + m ≤ 9223372036854775807) (hb : (n + m) * bytes ≤ 140737488355328) (hB : B ≤ w.heap.size) :
    ∃ v' w', (Builtin.append_ #[t, tx] ty #[v, x]).run P w = .ok v' w' ∧ SV T B w' v' (n + m) (appF n f f') ∧ Kept v.ownBlock.toList w w' ∧ ∀ k, v'.ownBlock = some k → v.ownBlock = some k ∨ w.heap.size ≤ k := by
  have grow : ∀ (base : Option Addr) (cap : Nat), v = .slice base n cap → cap < n + m → (∀ w', (Builtin.firstCells i.size n (.slice base n cap)).run P w.drew = .ok ((List.range n).map f).toArray w.drew ∨ w' ≠ w.drew) →
      ∃ v' w', (Builtin.append_ #[t, tx] ty #[v, x]).run P w = .ok v' w' ∧ SV T B w' v' (n + m) (appF n f f') ∧ Kept v.ownBlock.toList w w' ∧ ∀ k, v'.ownBlock = some k → v.ownBlock = some k ∨ w.heap.size ≤ k := by
    intro base cap hve hcap hold
    subst hve
    have hold' := (hold w.drew).resolve_right (by simp)
    have hge := grownCap_ge w (n + m) cap e
    have hcm : grownCap w (n + m) cap e ≤ 9223372036854775807 := by have := grownCap_le_maxLen w (n + m) cap e (by unfold maxLen; omega); unfold maxLen at this; omega
    have hr := run_append_grow_src (P := P) w t tx ty e i z ht hi hz base n cap ((List.range n).map f) hold' x m ((List.range m).map f') (by rw [hsize]; exact hs) hcap (by omega) (growslice_fits hcap (by rw [hby]; exact hb))
    refine ⟨_, _, hr, .inr ⟨w.heap.size, _, e, rfl, hB, hge, hcm, hT, _, heap_alloc_new w.drew _, ?_, ?_⟩, ?_, ?_⟩
    · simp [size_zeroCells, hzs]; omega
    · intro j hj
      rw [Array.getElem?_append_left (by simp; omega), List.getElem?_toArray]
      exact appF_get f f' hj
    · exact (((Kept.refl _ w).drew).alloc _)
    · intro k hk; right; simp [Value.ownBlock] at hk; omega
  rcases hv with ⟨rfl, rfl⟩ | ⟨g, cap, t', rfl, hBg, hnc, hcm, hTt, hR⟩
  · by_cases hm : m = 0
    · subst hm
      refine ⟨.slice none 0 0, w, ?_, .inl ⟨rfl, rfl⟩, Kept.refl _ _, fun k hk => .inl hk⟩
      have hc := hs.cells
      have hl := hs.len
      rcases hs.kind with ⟨e', hk⟩ | hk <;> simp [Builtin.append_, run_underlying ht, run_underlying hk, sizeOf, typeInfo, hi, hsize, hl, hc]
    · exact grow none 0 rfl (by omega) fun w' => .inl (by simp [Builtin.firstCells])
  · by_cases hroom : n + m ≤ cap
    · obtain ⟨cur, hg, hcs, hcur⟩ := hR
      have hr := run_append_room_src (P := P) w t tx ty e i ht hi g 0 n cap x m ((List.range m).map f') (by rw [hsize]; exact hs) hroom
        (fun j hj => by rw [cell_of_heap hg]; simp at hj ⊢; simp [hsize]; omega) (fun j hj => frozen_of_heap hg _)
      obtain ⟨cur', h1, h2, h3, h4, h5⟩ := row_setCells (w := w) (cur := cur) ((List.range m).map f') w cur n hg (by simp; omega)
      rw [hsize, Nat.mul_one, Nat.zero_add] at hr
      refine ⟨_, _, hr, .inr ⟨g, cap, t', rfl, hBg, hroom, hcm, hTt, cur', h1, by omega, ?_⟩, h5, fun k hk => .inl hk⟩
      intro j hj
      unfold appF
      by_cases h : j < n
      · rw [h3 j h, if_pos h]; exact hcur j h
      · rw [if_neg h]
        have := h4 (j - n) (f' (j - n)) (range_map_get f' (by omega))
        rwa [show n + (j - n) = j by omega] at this
    · refine grow (some ⟨g, 0, none⟩) cap rfl (by omega) fun w' => .inl ?_
      refine run_firstCells_some (P := P) w.drew i.size n ⟨g, 0, none⟩ n cap _ (by simp [hsize]) ?_
      intro j u hj
      rw [Addr.add_lit, Nat.zero_add]
      have hjn : j < n := by
        have := (List.getElem?_eq_some_iff.1 hj).1
        simpa using this
      have := hR.cell hjn
      simp [hjn] at hj
      rw [World.cell?_drew, this, hj]

theorem wpList_append_sv {P : Program} (w : World) {ops : Array Oper} {rest : List Oper} {o : Oper} {a : Act} {Q : Exit → Act → World → Prop}
    (hg : o.guard = none) (s x : Operand) (t tx : TypeId) (hop : o.op = Op.call { callee := Callee.builtin Builtin.append, args := #[s, x], argTypes := #[t, tx] })
    (e : TypeId) (i : TypeInfo) (z : Value) (bytes : Nat) (h1 : P.underlying t = some (.slice e)) (h2 : P.info? e = some i) (h3 : i.zero = some z) (h4 : i.size = 1) (h5 : i.bytes = bytes) (h6 : z.cells.size = 1)
    (T : TypeId → Prop) (hT : T e) (B n m : Nat) (v xv : Value) (f f' : Nat → Value) (hsv : a.eval s = v) (hv : SV T B w v n f) (hxv : a.eval x = xv) (hs : Src P 1 tx xv m ((List.range m).map f') w)
    (h63 : n + m ≤ 9223372036854775807) (hb : (n + m) * bytes ≤ 140737488355328) (hB : B ≤ w.heap.size)
    (hK : ∀ v' w', SV T B w' v' (n + m) (appF n f f') → Kept v.ownBlock.toList w w' → Hid (∀ k, v'.ownBlock = some k → v.ownBlock = some k ∨ w.heap.size ≤ k) → wpList P ops Q rest (a.put o.dst v') w') :
    wpList P ops Q (o :: rest) a w := by
  refine wpList_plain hg fun K hK' => ?_
  obtain ⟨v', w', hr, r1, r2, r3⟩ := run_append_sv (P := P) w t tx o.type e i z bytes h1 h2 h3 h4 h5 h6 hT hv hs h63 hb hB
  unfold Oper.wp
  simp [execOp, hop, resolve, invoke, builtin, hsv, hxv, hr, Result.andThen]
  exact hK' _ _ (hK v' w' r1 r2 r3)

/-- What one new element in a block of its own yields. -/
theorem Src.one {P : Program} (w : World) (t e e' : TypeId) (u : Value) (hk : P.underlying t = some (.slice e)) (h1 : u.oneCell' = true) :
    Src P 1 t (.slice (some ⟨w.heap.size, 0, none⟩) 1 1) 1 ((List.range 1).map fun _ => u) (w.alloc (.cells #[u] e')) := by
  refine Src.ofSlice _ hk _ 1 1 _ (by simp) ?_ (by simpa using h1)
  intro j v hj
  match j, hj with
  | 0, hj => simp at hj; subst hj; simp [Addr.add]

/-- What a slice of such a kind yields. -/
theorem SV.src {P : Program} {T : TypeId → Prop} {B n : Nat} {w : World} {v : Value} {f : Nat → Value} (t e : TypeId) (hk : P.underlying t = some (.slice e)) (h : SV T B w v n f) (h1 : ∀ j, j < n → (f j).oneCell' = true) :
    Src P 1 t v n ((List.range n).map f) w := by
  have hone : ∀ u ∈ (List.range n).map f, u.oneCell' = true := by
    intro u hu
    obtain ⟨j, hj, rfl⟩ := List.mem_map.1 hu
    exact h1 j (by simpa using hj)
  rcases h with ⟨rfl, rfl⟩ | ⟨g, c, t', rfl, h2, h3, h4, h5, h6⟩
  · exact Src.ofNil w hk 0
  · refine Src.ofSlice _ hk _ n c _ (by simp) ?_ hone
    intro j v hj
    have hjn : j < n := by
      have := (List.getElem?_eq_some_iff.1 hj).1
      simpa using this
    rw [range_map_get f hjn] at hj
    rw [Addr.add_lit, Nat.zero_add, h6.cell hjn, hj]

/-- What a piece of a row yields. -/
theorem Row.src {P : Program} {w : World} {g c n : Nat} {e' : TypeId} {f : Nat → Value} (t e : TypeId) (hk : P.underlying t = some (.slice e)) (h : Row w g e' c f n) (off m cap : Nat) (hm : off + m ≤ n) (h1 : ∀ j, j < n → (f j).oneCell' = true) :
    Src P 1 t (.slice (some ⟨g, off, none⟩) m cap) m ((List.range m).map fun j => f (off + j)) w := by
  refine Src.ofSlice _ hk _ m cap _ (by simp) ?_ ?_
  · intro j v hj
    have hjn : j < m := by
      have := (List.getElem?_eq_some_iff.1 hj).1
      simpa using this
    rw [range_map_get _ hjn] at hj
    rw [Addr.add_lit, h.cell (by omega), hj]
  · intro u hu
    obtain ⟨j, hj, rfl⟩ := List.mem_map.1 hu
    exact h1 _ (by have : j < m := by simpa using hj
                   omega)
end

section
open Go.RowKit

theorem whole_walk (g o n c : Nat) (x : Nat → Nat) (w : World) (h0 : 0 < n) (hn : n ≤ 900000) (hc : n ≤ c) (hg : g < w.heap.size)
    (hcell : ∀ j, j < n → w.cell? ⟨g, o + j, none⟩ = some (.int .u64 (x j : Nat))) :
    Calls Tryz.prog 26 #[.slice (some ⟨g, o, none⟩) n c] w fun e w' => ∃ b v' m, e = .returned (.pointer (some ⟨b, 0, none⟩)) ∧ NormAt x n m ∧ w.heap.size ≤ b ∧
      w'.heap[b]? = some (.cells #[.bool false, v', .bool false] 67 (0, 0)) ∧ NatV w.heap.size w' v' m x ∧ Kept [] w w' := by
  obtain ⟨i0, hi, hz0, hz1, hz2⟩ := info_parts Tryz.info88
  go_enter Tryz.func26, Tryz.ntmps26
  go_wp2
  go_loopw [3, 8] (fun l i wr => ∃ k : Nat, k ≤ n ∧ i = .int .i64 k ∧ SV (· = 88) w.heap.size wr l k (fun j => .int .u64 (x j : Nat)) ∧ Kept [] w wr) (fun _ i _ => n - (intOf i).toNat)
  case atStart => exact ⟨0, Nat.zero_le _, rfl, SV.nil _ _ _ _, Kept.refl _ _⟩
  case round =>
    obtain ⟨k, hk, rfl, hsv, hkp⟩ := hrel
    by_cases hlt : k < n
    · have hck := (hkp.cell (p := ⟨g, o + k, none⟩) hg (by simp)).trans (hcell k hlt)
      have hA := hkp.alloc (.cells #[.int .u64 (x k : Nat)] 88)
      have hB := hkp.size
      go_wp2_with (at_builtin; refine wpList_append_sv _ rfl (.tmp 12) (.tmp 14) 62 62 rfl 88 i0 (.int .u64 0) 8 Tryz.underlying62 hi hz0 hz1 hz2 rfl (· = 88) rfl w.heap.size k 1 _ _ (fun j => .int .u64 (x j : Nat)) (fun _ => .int .u64 (x k : Nat)) rfl (hsv.alloc _) rfl (Src.one _ 62 88 88 _ Tryz.underlying62 rfl) (by omega) (by omega) (by simp; omega) ?_)
      intro v' w1 hsv' hk1 hown
      have hkw := hA.trans hk1 (ds := []) (by simp) (by
        intro y hy
        right
        rcases hsv with ⟨rfl, _⟩ | ⟨g', c', t', rfl, h1, _⟩
        · simp [Value.ownBlock] at hy
        · simp [Value.ownBlock] at hy; omega)
      have hsv2 := hsv'.congr (f' := fun j => .int .u64 (x j : Nat)) (fun j hj => by
        unfold appF
        split
        · rfl
        · rw [show j = k by omega])
      clear hsv hsv' hk1 hown hck hA hB
      go_wp2
      go_roundw
      case rel => exact ⟨k + 1, by omega, by go_num, hsv2, hkw⟩
      case measure => simp [intOf]; omega
    · obtain rfl : k = n := by omega
      have HN := hid ((hsv.nat.alloc (.cells #[.bool false, .slice none 0 0, .bool false] 67)).alloc (.cells #[.bool false, .slice none 0 0] 65))
      have HA : Hid (((wr.alloc (.cells #[.bool false, .slice none 0 0, .bool false] 67)).alloc (.cells #[.bool false, .slice none 0 0] 65)).heap[wr.heap.size]? = some (.cells #[.bool false, .slice none 0 0, .bool false] 67 (0, 0))) := heap_alloc_old' (heap_alloc_new wr _) _
      have HB : Hid (((wr.alloc (.cells #[.bool false, .slice none 0 0, .bool false] 67)).alloc (.cells #[.bool false, .slice none 0 0] 65)).heap[wr.heap.size + 1]? = some (.cells #[.bool false, .slice none 0 0] 65 (0, 0))) := by
        have := heap_alloc_new (wr.alloc (.cells #[.bool false, .slice none 0 0, .bool false] 67)) (.cells #[.bool false, .slice none 0 0] 65)
        rwa [World.size_alloc] at this
      have HK := hid ((hkp.alloc (.cells #[.bool false, .slice none 0 0, .bool false] 67)).alloc (.cells #[.bool false, .slice none 0 0] 65))
      have hsz := hkp.size
      clear hcell hsv hkp
      go_wp2_with fail
      refine (setBits_any (wr.heap.size + 1) 0 k false (.slice none 0 0) u3 _ 65 x _ hn HB.out rfl rfl (HN.out.mono (by omega)) (by decide)).mono ?_
      rintro e w1 ⟨rfl, m, v1, hm, hv1, hk1, hb1⟩
      have HN1 := hid hv1
      have HB1 := hid hb1
      have HA1 := hid (hk1.heap HA.out (by simp))
      have HK1 := hid (HK.out.trans hk1 (ds := []) (by simp) (by intro y hy; right; simp at hy; omega))
      have hs1 := hk1.size
      simp only [World.size_alloc] at hs1
      have hml := hm.1
      have HM := hid hm
      clear hm hv1 hb1 hk1
      go_wp2_with fail
      refine (setMath_any wr.heap.size 0 (wr.heap.size + 1) 0 m false false false v1 _ _ 67 65 x w1 (by omega) (by omega) HA1.out rfl rfl rfl HB1.out (by simp) (by simp) HN1.out (by decide)).mono ?_
      rintro e w2 ⟨rfl, v2, hv2, hk2, hb2⟩
      have HN2 := hid hv2
      have HB2 := hid hb2
      have HK2 := hid (HK1.out.trans hk2 (ds := []) (by simp) (by intro y hy; right; simp at hy; omega))
      clear hv2 hb2 hk2
      go_wp2
      go_ret
      exact ⟨wr.heap.size, v2, m, rfl, HM.out, hsz, by simpa using HB2.out, HN2.out.mono (by omega), HK2.out⟩

theorem whole_zero (ao : Option Addr) (c : Nat) (x : Nat → Nat) (w : World) (hc : c ≤ 9223372036854775807) :
    Calls Tryz.prog 26 #[.slice ao 0 c] w fun e w' => ∃ b v' m, e = .returned (.pointer (some ⟨b, 0, none⟩)) ∧ NormAt x 0 m ∧ w.heap.size ≤ b ∧
      w'.heap[b]? = some (.cells #[.bool false, v', .bool false] 67 (0, 0)) ∧ NatV w.heap.size w' v' m x ∧ Kept [] w w' := by
  go_enter Tryz.func26, Tryz.ntmps26
  go_wp2
  refine wp_loop_rounds 1 ?_; rw [rounds_succ]
  have HN := hid (((SV.nil (· = 88) w.heap.size w (fun j => .int .u64 (x j : Nat))).nat.alloc (.cells #[.bool false, .slice none 0 0, .bool false] 67)).alloc (.cells #[.bool false, .slice none 0 0] 65))
  have HA : Hid (((w.alloc (.cells #[.bool false, .slice none 0 0, .bool false] 67)).alloc (.cells #[.bool false, .slice none 0 0] 65)).heap[w.heap.size]? = some (.cells #[.bool false, .slice none 0 0, .bool false] 67 (0, 0))) := heap_alloc_old' (heap_alloc_new w _) _
  have HB : Hid (((w.alloc (.cells #[.bool false, .slice none 0 0, .bool false] 67)).alloc (.cells #[.bool false, .slice none 0 0] 65)).heap[w.heap.size + 1]? = some (.cells #[.bool false, .slice none 0 0] 65 (0, 0))) := by
    have := heap_alloc_new (w.alloc (.cells #[.bool false, .slice none 0 0, .bool false] 67)) (.cells #[.bool false, .slice none 0 0] 65)
    rwa [World.size_alloc] at this
  have HK := hid (((Kept.refl [] w).alloc (.cells #[.bool false, .slice none 0 0, .bool false] 67)).alloc (.cells #[.bool false, .slice none 0 0] 65))
  have hsz := (Kept.refl [] w).size
  go_wp2_with fail
  refine (setBits_any (w.heap.size + 1) 0 0 false (.slice none 0 0) (.slice none 0 0) _ 65 x _ (by omega) HB.out rfl rfl (HN.out.mono (by omega)) (by decide)).mono ?_
  rintro e w1 ⟨rfl, m, v1, hm, hv1, hk1, hb1⟩
  have HN1 := hid hv1
  have HB1 := hid hb1
  have HA1 := hid (hk1.heap HA.out (by simp))
  have HK1 := hid (HK.out.trans hk1 (ds := []) (by simp) (by intro y hy; right; simp at hy; omega))
  have hs1 := hk1.size
  simp only [World.size_alloc] at hs1
  have hml := hm.1
  have HM := hid hm
  clear hm hv1 hb1 hk1
  go_wp2_with fail
  refine (setMath_any w.heap.size 0 (w.heap.size + 1) 0 m false false false v1 _ _ 67 65 x w1 (by omega) (by omega) HA1.out rfl rfl rfl HB1.out (by simp) (by simp) HN1.out (by decide)).mono ?_
  rintro e w2 ⟨rfl, v2, hv2, hk2, hb2⟩
  have HN2 := hid hv2
  have HB2 := hid hb2
  have HK2 := hid (HK1.out.trans hk2 (ds := []) (by simp) (by intro y hy; right; simp at hy; omega))
  clear hv2 hb2 hk2
  go_wp2
  go_ret
  exact ⟨w.heap.size, v2, m, rfl, HM.out, hsz, by simpa using HB2.out, HN2.out.mono (by omega), HK2.out⟩

/-- impl.whole: the words in a new BigInt, without the noughts at their end. -/
theorem whole_any (ao : Option Addr) (n c : Nat) (x : Nat → Nat) (w : World) (hn : n ≤ 900000) (hc : n ≤ c) (hcc : c ≤ 9223372036854775807)
    (hcell : n = 0 ∨ ∃ g o, ao = some ⟨g, o, none⟩ ∧ g < w.heap.size ∧ ∀ j, j < n → w.cell? ⟨g, o + j, none⟩ = some (.int .u64 (x j : Nat))) :
    Calls Tryz.prog 26 #[.slice ao n c] w fun e w' => ∃ b v' m, e = .returned (.pointer (some ⟨b, 0, none⟩)) ∧ NormAt x n m ∧ w.heap.size ≤ b ∧
      w'.heap[b]? = some (.cells #[.bool false, v', .bool false] 67 (0, 0)) ∧ NatV w.heap.size w' v' m x ∧ Kept [] w w' := by
  by_cases h0 : n = 0
  · subst h0
    exact whole_zero ao c x w hcc
  · rcases hcell with h | ⟨g, o, rfl, hg, h⟩
    · exact absurd h h0
    · exact whole_walk g o n c x w (by omega) hn hc hg h
end

section
open Go.RowKit

/-- The world in which made calls whole. -/
def madeW (w : World) (f : Int) (neg : Bool) (sl : Value) (ex : Int) : World :=
  (w.alloc (.cells #[.int .i64 f, .bool neg, sl, .int .i64 ex] 30)).alloc (.cells #[.int .i8 0, .bool false, .int .i32 ex, .bool false, .slice none 0 0, .bool false] 69)

theorem madeW_facts (w : World) (f : Int) (neg : Bool) (sl : Value) (ex : Int) :
    (madeW w f neg sl ex).heap[w.heap.size]? = some (.cells #[.int .i64 f, .bool neg, sl, .int .i64 ex] 30 (0, 0)) ∧
    (madeW w f neg sl ex).heap[w.heap.size + 1]? = some (.cells #[.int .i8 0, .bool false, .int .i32 ex, .bool false, .slice none 0 0, .bool false] 69 (0, 0)) ∧
    (madeW w f neg sl ex).heap.size = w.heap.size + 2 ∧ Kept [] w (madeW w f neg sl ex) := by
  refine ⟨heap_alloc_old' (heap_alloc_new w _) _, ?_, by simp [madeW], ((Kept.refl [] w).alloc _).alloc _⟩
  have := heap_alloc_new (w.alloc (.cells #[.int .i64 f, .bool neg, sl, .int .i64 ex] 30)) (.cells #[.int .i8 0, .bool false, .int .i32 ex, .bool false, .slice none 0 0, .bool false] 69)
  rwa [World.size_alloc] at this

/-- impl.made of a finite Dec. -/
theorem made_finite (neg : Bool) (ao : Option Addr) (n c : Nat) (ex : Int) (x : Nat → Nat) (w : World) (hn : n ≤ 900000) (hc : n ≤ c) (hcc : c ≤ 9223372036854775807) (he : -100000 ≤ ex ∧ ex ≤ 100000)
    (hcell : n = 0 ∨ ∃ g o, ao = some ⟨g, o, none⟩ ∧ g < w.heap.size ∧ ∀ j, j < n → w.cell? ⟨g, o + j, none⟩ = some (.int .u64 (x j : Nat))) :
    Calls Tryz.prog 16 #[.agg #[.int .i64 0, .bool neg, .slice ao n c, .int .i64 ex]] w fun e w' => ∃ b v' m, e = .returned (.pointer (some ⟨b, 0, none⟩)) ∧ NormAt x n m ∧ w.heap.size ≤ b ∧
      w'.heap[b]? = some (.cells #[.int .i8 0, .bool neg, .int .i32 ex, .bool false, v', .bool false] 69 (0, 0)) ∧ NatV w.heap.size w' v' m x ∧ Kept [] w w' := by
  obtain ⟨f1, f2, f3, f4⟩ := madeW_facts w 0 neg (.slice ao n c) ex
  have HC : Hid (n = 0 ∨ ∃ g o, ao = some ⟨g, o, none⟩ ∧ g < (madeW w 0 neg (.slice ao n c) ex).drew.heap.size ∧ ∀ j, j < n → (madeW w 0 neg (.slice ao n c) ex).drew.cell? ⟨g, o + j, none⟩ = some (.int .u64 (x j : Nat))) := by
    rcases hcell with h | ⟨g, o, h1, h2, h3⟩
    · exact .inl h
    · exact .inr ⟨g, o, h1, by simp; omega, fun j hj => (f4.cell (p := ⟨g, o + j, none⟩) h2 (by simp)).trans (h3 j hj)⟩
  have F1 := hid f1
  have F2 := hid f2
  have F4 := hid f4
  have hx2 := (cell_of_heap f1 2)
  clear hcell f1 f2 f4
  go_enter Tryz.func16, Tryz.ntmps16
  go_wp2_with fail
  rename_i K _
  change Code.wp _ _ _ _ (madeW w 0 neg (.slice ao n c) ex)
  generalize madeW w 0 neg (.slice ao n c) ex = W2 at *
  go_region_with
    (first
      | (go_at_call 26; refine (whole_any ao n c x _ hn hc hcc HC.out).mono ?_; rintro e w1 ⟨bb, v1, m, rfl, hm, hb, hh, hv, hk⟩; have HM := hid hm; have hm1 := hm.1; have hk' := hk.ofDrew; have HH := hid hh; have HV := hid hv; have HK := hid (F4.out.trans hk' (ds := []) (by simp) (by simp)); have G1 := hid (hk'.heap F1.out (by simp)); have G2 := hid (hk'.heap F2.out (by simp)); have hs := hk.size; simp only [World.size_drew] at hs hb; clear hm hh hv hk hk')
      | (go_at_call 25; refine (bigSet_any (w.heap.size + 1) 3 bb 0 m false false false false v1 _ _ 69 67 x _ (by omega) (by omega) G2.out rfl rfl rfl HH.out rfl rfl rfl (HV.out.mono (by omega)) (by decide)).mono ?_; rintro e w2 ⟨rfl, v2, hv2, hk2, hb2⟩; have HV2 := hid hv2; have HB2 := hid hb2; have HK2 := hid (HK.out.trans hk2 (ds := []) (by simp) (by intro y hy; right; simp at hy; omega)); have G3 := hid (hk2.heap G1.out (by simp)); clear hv2 hb2 hk2))
  have c1 : w2.cell? ⟨w.heap.size, 1, none⟩ = some (.bool neg) := cell_of_heap G3.out 1
  have c2 : w2.cell? ⟨w.heap.size + 1, 1, none⟩ = some (.bool false) := (cell_of_heap HB2.out 1).trans (by simp)
  have c3 := frozen_of_heap HB2.out 1
  have hb2 := hid (heap_setCell_self HB2.out 1 (.bool neg))
  have hk3 := hid (HK2.out.setCell ⟨w.heap.size + 1, 1, none⟩ (.bool neg) (.inr (by simp)))
  have hv3 := hid (HV2.out.store HB2.out (by decide) ((Kept.refl _ w2).setCell ⟨w.heap.size + 1, 1, none⟩ (.bool neg) (.inl List.mem_cons_self)))
  go_wp2
  go_ret
  exact ⟨_, v2, m, rfl, HM.out, by omega, by simpa using hb2.out, hv3.out.mono (by omega), hk3.out⟩
end

section
open Go.RowKit

theorem ret_ii {k1 k2 : IntKind} {a b c d : Int} (h1 : a = c) (h2 : b = d) : Ending.returned (.tuple #[.int k1 a, .int k2 b]) = .returned (.tuple #[.int k1 c, .int k2 d]) := by rw [h1, h2]
theorem ret_i {k1 : IntKind} {a c : Int} (h1 : a = c) : Ending.returned (.int k1 a) = .returned (.int k1 c) := by rw [h1]
theorem u64_id {a : Int} {n : Nat} (h : a = n) (hn : n ≤ 18446744073709551615) : IntKind.u64.wrap a = n := by subst h; exact IntWalk.u64_in _ (by omega)

theorem bitsDiv64_lo (x y : Nat) (w : World) (hx : x ≤ 18446744073709551615) (hy : 1 ≤ y) (hy2 : y ≤ 18446744073709551615) :
    Calls Tryz.prog 316 #[.int .u64 0, .int .u64 x, .int .u64 y] w fun e w' => e = .returned (.tuple #[.int .u64 (x / y : Nat), .int .u64 (x % y : Nat)]) ∧ ∃ k, w' = w.drewN k := by
  have h0 : ((y : Int) == 0) = false := by simp; omega
  have h1 : (0 : Int) < y := by omega
  go_enter Tryz.func316, Tryz.ntmps316
  go_wp2
  go_quiet (fail)
  go_wp2
  go_ret2
  exact ⟨ret_ii (u64_id (by simp) (Nat.le_trans (Nat.div_le_self _ _) hx)) (by simp), _, rfl⟩

theorem bitsDiv_lo (x y : Nat) (w : World) (hx : x ≤ 18446744073709551615) (hy : 1 ≤ y) (hy2 : y ≤ 18446744073709551615) :
    Calls Tryz.prog 275 #[.int .u64 0, .int .u64 x, .int .u64 y] w fun e w' => e = .returned (.tuple #[.int .u64 (x / y : Nat), .int .u64 (x % y : Nat)]) ∧ ∃ k, w' = w.drewN k := by
  go_enter Tryz.func275, Tryz.ntmps275
  go_wp2_with fail
  refine (bitsDiv64_lo x y w hx hy hy2).mono ?_
  rintro e w' ⟨rfl, k, rfl⟩
  go_wp2
  go_ret2
  exact ⟨ret_ii (by simp) (by simp), k, rfl⟩

theorem divWVW_one (g c : Nat) (x y : Nat) (w : World) (hx : x ≤ 18446744073709551615) (hy : 1 ≤ y) (hy2 : y ≤ 18446744073709551615) (h1 : 1 ≤ c)
    (hc : w.cell? ⟨g, 0, none⟩ = some (.int .u64 (x : Nat))) (hf : w.frozen? ⟨g, 0, none⟩ = false) :
    Calls Tryz.prog 229 #[.slice (some ⟨g, 0, none⟩) 1 c, .int .u64 0, .slice (some ⟨g, 0, none⟩) 1 c, .int .u64 y] w fun e w' =>
      e = .returned (.int .u64 (x % y : Nat)) ∧ ∃ k, w' = (w.setCell ⟨g, 0, none⟩ (.int .u64 (x / y : Nat))).drewN k := by
  go_enter Tryz.func229, Tryz.ntmps229
  go_wp2_with fail
  refine (bitsDiv_lo x y _ hx hy hy2).mono ?_
  rintro e w' ⟨rfl, k, rfl⟩
  go_wp2
  go_ret
  exact ⟨ret_i (by simp), k, rfl⟩

/-- The number of the words x 0, .., x (n - 1), the lowest first. -/
def val (x : Nat → Nat) : Nat → Nat
  | 0 => 0
  | n + 1 => val x n + x n * 2 ^ (64 * n)

/-- What nat.divW by 10^19 in place does to a number of at most N words. -/
def DivOK (N : Nat) : Prop := ∀ (n g c : Nat) (x : Nat → Nat) (w : World), 1 ≤ n → n ≤ N → n ≤ c → c ≤ 9223372036854775807 → WRow w g c x n → (∀ j, j < n → x j < 18446744073709551616) →
  Calls Tryz.prog 190 #[.slice (some ⟨g, 0, none⟩) n c, .slice (some ⟨g, 0, none⟩) n c, .int .u64 10000000000000000000] w fun e w' =>
    ∃ m y, m ≤ n ∧ e = .returned (.tuple #[.slice (some ⟨g, 0, none⟩) m c, .int .u64 (val x n % 10000000000000000000 : Nat)]) ∧ WRow w' g c y m ∧ val y m = val x n / 10000000000000000000 ∧
      (∀ j, j < m → y j < 18446744073709551616) ∧ (m = 0 ∨ y (m - 1) ≠ 0) ∧ Kept [g] w w'

theorem val_one (x : Nat → Nat) : val x 1 = x 0 := by simp [val]

theorem divOK_one : DivOK 1 := by
  intro n g c x w h1 hn hc hcc hR hx
  obtain rfl : n = 1 := by omega
  have hx0 := hx 0 (by omega)
  have c0 := hR.cell (j := 0) (by omega)
  have f0 := hR.free 0
  have hw := hR.store 0 (.int .u64 (x 0 / 10000000000000000000 : Nat)) (f' := fun _ => .int .u64 (x 0 / 10000000000000000000 : Nat)) (m := 1) (by omega) (by omega) (fun _ => rfl) (fun i h1 h2 => by omega)
  have HW := hid hw
  have HX := hid hx
  clear hw hx
  go_enter Tryz.func190, Tryz.ntmps190
  go_wp2_with fail
  refine (make_reuse _ _ _ 1 _ hc (by omega)).mono ?_
  rintro e w' ⟨rfl, rfl⟩
  go_wp2_with fail
  refine (divWVW_one g c (x 0) 10000000000000000000 _ (by omega) (by omega) (by omega) hc c0 f0).mono ?_
  rintro e w' ⟨rfl, k, rfl⟩
  go_wp2_with fail
  refine (norm_any g 0 1 c (fun _ => x 0 / 10000000000000000000) _ hc (by omega) (fun j hj => by rw [Nat.zero_add]; exact (HW.out.cell (j := j) (by omega)))).mono ?_
  rintro e w' ⟨m, hm, rfl, rfl⟩
  go_wp2
  go_ret2
  refine ⟨m, fun _ => x 0 / 10000000000000000000, hm.1, by rw [val_one]; rfl, HW.out.congr hm.1 (fun _ _ => rfl), ?_, fun j _ => by have := Nat.div_le_self (x 0) 10000000000000000000; show x 0 / 10000000000000000000 < _; omega, hm.2.1, ?_⟩
  · rw [val_one]
    have h2 := hm.1
    have h3 := hm.2.2
    match m, h2, h3 with
    | 0, _, h3 => have := h3 0 (by omega) (by omega); simp [val, this]
    | 1, _, _ => simp [val]
  · exact ((Kept.refl [g] _).setCell ⟨g, 0, none⟩ _ (.inl (by simp))).drewN k
end

end Go.Proofs.YtofmickjbpkgbaaGreatDoor
