import Derived.Test.YtofmickjbpkgbaaGreatDoorProg
import Derived.WalkKit
import Derived.Handy
import Derived.WalkLawsBesides
import Derived.WalkSpells
import Derived.Laws.CopyOwn
import Derived.LaidEqlPtr
import Derived.Lib.Builder
import Derived.Deep.RegionHeld3
import Derived.Deep.QuietTactic
import Derived.BigQuiet
namespace Go.Proofs.YtofmickjbpkgbaaGreatDoor
open Go.RowKit
set_option maxRecDepth 100000

/-- A fact that the walk does not look into. -/
theorem hid {p : Prop} (h : p) : Hid p := h

/-- What a call leaves as it was: all old blocks but those of the list 'bs'. -/
structure Kept (bs : List Nat) (w w' : World) : Prop where
  os : w'.os = w.os
  tape : w'.tape = w.tape
  output : w'.output = w.output
  size : w.heap.size ≤ w'.heap.size
  block : ∀ k, k < w.heap.size → k ∉ bs → w'.heap[k]? = w.heap[k]?

theorem Kept.refl (bs : List Nat) (w : World) : Kept bs w w := ⟨rfl, rfl, rfl, Nat.le_refl _, fun _ _ _ => rfl⟩

theorem Kept.trans {bs cs ds : List Nat} {a b c : World} (h : Kept bs a b) (k : Kept cs b c) (h1 : ∀ x ∈ bs, x ∈ ds ∨ a.heap.size ≤ x) (h2 : ∀ x ∈ cs, x ∈ ds ∨ a.heap.size ≤ x) : Kept ds a c :=
  ⟨k.os.trans h.os, k.tape.trans h.tape, k.output.trans h.output, Nat.le_trans h.size k.size, fun i hi hn => by
    rw [k.block i (Nat.lt_of_lt_of_le hi h.size) (fun hm => by rcases h2 i hm with h2 | h2; exact hn h2; omega)]
    exact h.block i hi (fun hm => by rcases h1 i hm with h1 | h1; exact hn h1; omega)⟩

theorem Kept.then {a b c : World} (h : Kept [] a b) (k : Kept [] b c) : Kept [] a c := h.trans k (by simp) (by simp)

theorem Kept.mono {bs cs : List Nat} {w w' : World} (h : Kept bs w w') (hs : ∀ x ∈ bs, x ∈ cs ∨ w.heap.size ≤ x) : Kept cs w w' :=
  ⟨h.os, h.tape, h.output, h.size, fun i hi hn => h.block i hi (fun hm => by rcases hs i hm with h1 | h1; exact hn h1; omega)⟩

theorem Kept.alloc {bs : List Nat} {a w : World} (h : Kept bs a w) (o : Obj) : Kept bs a (w.alloc o) :=
  ⟨h.os, h.tape, h.output, by have := h.size; simp; omega, fun i hi hn => by
    rw [Below.heap_alloc _ _ _ (Nat.lt_of_lt_of_le hi h.size)]; exact h.block i hi hn⟩

theorem Kept.drew {bs : List Nat} {a w : World} (h : Kept bs a w) : Kept bs a w.drew := ⟨h.os, h.tape, h.output, h.size, h.block⟩

theorem Kept.drewN {bs : List Nat} {a w : World} (h : Kept bs a w) (k : Nat) : Kept bs a (w.drewN k) := ⟨h.os, h.tape, h.output, h.size, h.block⟩

theorem Kept.ofDrew {bs : List Nat} {a w : World} (h : Kept bs a.drew w) : Kept bs a w := ⟨h.os, h.tape, h.output, h.size, h.block⟩

theorem Kept.setCell {bs : List Nat} {a w : World} (h : Kept bs a w) (p : Addr) (v : Value) (hp : p.block ∈ bs ∨ a.heap.size ≤ p.block) : Kept bs a (w.setCell p v) :=
  ⟨h.os, h.tape, h.output, by have := h.size; simp; omega, fun i hi hn => by
    rw [Below.heap_setCell _ _ _ _ (fun e => by subst e; rcases hp with hp | hp; exact hn hp; omega)]; exact h.block i hi hn⟩

theorem Kept.grown {bs : List Nat} {a w w' : World} {row : Option Nat} (h : Kept bs a w) (hg : w.grownBy w' row) (hr : ∀ k, row = some k → k ∈ bs ∨ a.heap.size ≤ k) : Kept bs a w' :=
  ⟨hg.os.trans h.os, hg.tape.trans h.tape, hg.output.trans h.output, Nat.le_trans h.size hg.size, fun i hi hn => by
    rw [hg.block i (Nat.lt_of_lt_of_le hi h.size) (fun e => by rcases hr i e.symm with hr | hr; exact hn hr; omega)]; exact h.block i hi hn⟩

theorem Kept.below {bs : List Nat} {w w' : World} (h : Kept bs w w') {B : Nat} (hB : B ≤ w.heap.size) (hs : ∀ x ∈ bs, B ≤ x) : Below B w w' :=
  ⟨h.os, h.tape, h.output, h.size, fun i hi => h.block i (by omega) (fun hm => by have := hs i hm; omega)⟩

theorem Kept.cell {bs : List Nat} {w w' : World} (h : Kept bs w w') {p : Addr} (hp : p.block < w.heap.size) (hn : p.block ∉ bs) : w'.cell? p = w.cell? p :=
  World.cell?_of_block (h.block _ hp hn)

theorem Kept.frozen {bs : List Nat} {w w' : World} (h : Kept bs w w') {p : Addr} (hp : p.block < w.heap.size) (hn : p.block ∉ bs) : w'.frozen? p = w.frozen? p :=
  World.frozen?_of_block (h.block _ hp hn)

theorem Kept.cellOf {bs : List Nat} {w w' : World} (h : Kept bs w w') {p : Addr} {v : Value} (hc : w.cell? p = some v) (hn : p.block ∉ bs) : w'.cell? p = some v :=
  (h.cell (World.block_lt_of_cell? w p hc) hn).trans hc

theorem lt_of_heap {w : World} {g : Nat} {o : Obj} (h : w.heap[g]? = some o) : g < w.heap.size := (Array.getElem?_eq_some_iff.1 h).1

theorem Kept.heap {bs : List Nat} {w w' : World} (h : Kept bs w w') {g : Nat} {o : Obj} (hc : w.heap[g]? = some o) (hn : g ∉ bs) : w'.heap[g]? = some o :=
  (h.block g (lt_of_heap hc) hn).trans hc

theorem cell_of_heap {w : World} {g : Nat} {cur : Array Value} {e : TypeId} {fr : Nat × Nat} (h : w.heap[g]? = some (.cells cur e fr)) (j : Nat) : w.cell? ⟨g, j, none⟩ = cur[j]? := by
  simp [World.cell?, h]

theorem frozen_of_heap {w : World} {g : Nat} {cur : Array Value} {e : TypeId} (h : w.heap[g]? = some (.cells cur e (0, 0))) (j : Nat) : w.frozen? ⟨g, j, none⟩ = false := by
  simp [World.frozen?, h]

theorem heap_setCell_self {w : World} {g : Nat} {cur : Array Value} {e : TypeId} {fr : Nat × Nat} (h : w.heap[g]? = some (.cells cur e fr)) (j : Nat) (v : Value) :
    (w.setCell ⟨g, j, none⟩ v).heap[g]? = some (.cells (cur.setIfInBounds j v) e fr) := by
  simp [World.setCell, Array.getElem?_modify, h]

theorem heap_setCell_other {w : World} {g : Nat} {o : Obj} (h : w.heap[g]? = some o) (p : Addr) (v : Value) (hp : p.block ≠ g) :
    (w.setCell p v).heap[g]? = some o := by
  rw [Below.heap_setCell _ _ _ _ (fun e => hp e.symm)]; exact h

theorem heap_alloc_old' {w : World} {g : Nat} {o : Obj} (h : w.heap[g]? = some o) (x : Obj) : (w.alloc x).heap[g]? = some o := by
  rw [Below.heap_alloc _ _ _ (lt_of_heap h)]; exact h

/-- n times one value (a definition: the walk does not open it). -/
def reps (z : Value) (n : Nat) : Array Value := Array.replicate n z

theorem size_reps (z : Value) (n : Nat) : (reps z n).size = n := by simp [reps]
theorem get_reps (z : Value) {n j : Nat} (h : j < n) : (reps z n)[j]? = some z := by simp [reps, h]

theorem madeCells_one (z : Value) (n : Nat) : madeCells #[z] n = reps z n := by
  unfold reps
  apply Array.ext
  · simp [madeCells]
  · intro i h1 h2
    simp [madeCells, Nat.mod_one]

/-- 'make([]T, n, c)' of one-cell elements: the new block written out. -/
theorem wpList_make_any {P : Program} (w : World) {ops : Array Oper} {rest : List Oper} {o : Oper} {a : Act} {Q : Exit → Act → World → Prop}
    (hg : o.guard = none) (l c : Operand) (t : TypeId) (hop : o.op = Op.makeSlice t l c)
    (e : TypeId) (i : TypeInfo) (z : Value) (bytes : Nat) (h1 : P.underlying t = some (.slice e)) (h2 : P.info? e = some i) (h3 : i.zero = some z) (h4 : i.size = 1) (h5 : i.bytes = bytes) (hz : z.cells = #[z])
    (kl kc : IntKind) (L C : Int) (n m : Nat) (hl : a.eval l = .int kl L) (hc : a.eval c = .int kc C) (hL : L = (n : Int)) (hC : C = (m : Int)) (hnm : n ≤ m) (b2 : bytes * m ≤ 281474976710656) (b3 : m ≤ 9223372036854775807)
    (hK : wpList P ops Q rest (a.put o.dst (.slice (some ⟨w.heap.size, 0, none⟩) n m)) (w.alloc (.cells (reps z m) e))) :
    wpList P ops Q (o :: rest) a w := by
  refine wpList_plain hg fun K hK' => ?_
  subst hL hC h5
  have hr := run_make (P := P) w t e i z h1 h2 h3 kl kc n m (by omega) (by omega) (by rw [← Int.natCast_mul]; omega) (by omega)
  simp only [Int.toNat_natCast, h4, Nat.mul_one, hz, madeCells_one] at hr
  unfold Oper.wp
  simp [execOp, hop, hl, hc, hr, Result.andThen]
  exact hK' _ _ hK

theorem Tryz.info88 : (Tryz.prog.info? 88).map (fun i => (i.zero, i.size, i.bytes)) = some (some (.int .u64 0), 1, 8) := by kernel_rfl
theorem Tryz.info23 : (Tryz.prog.info? 23).map (fun i => (i.zero, i.size, i.bytes)) = some (some (.int .u64 0), 1, 8) := by kernel_rfl
theorem Tryz.info3 : (Tryz.prog.info? 3).map (fun i => (i.zero, i.size, i.bytes)) = some (some (.int .i64 0), 1, 8) := by kernel_rfl
theorem Tryz.info5 : (Tryz.prog.info? 5).map (fun i => (i.zero, i.size, i.bytes)) = some (some (.int .u8 0), 1, 1) := by kernel_rfl

/-- Block g is a row of c cells of element type e, not frozen, the first n of which are f 0, f 1, .. -/
def Row (w : World) (g : Nat) (e : TypeId) (c : Nat) (f : Nat → Value) (n : Nat) : Prop :=
  ∃ cur, w.heap[g]? = some (.cells cur e (0, 0)) ∧ cur.size = c ∧ ∀ j, j < n → cur[j]? = some (f j)

section
variable {w w' : World} {g c n : Nat} {e : TypeId} {f : Nat → Value}

theorem Row.lt (h : Row w g e c f n) : g < w.heap.size := let ⟨_, h, _⟩ := h; lt_of_heap h
theorem Row.le (h : Row w g e c f n) : n ≤ c := by
  obtain ⟨cur, h1, h2, h3⟩ := h
  rcases Nat.lt_or_ge c n with hl | hl
  · have := h3 c hl
    rw [Array.getElem?_eq_none (by omega)] at this
    cases this
  · exact hl
theorem Row.cell (h : Row w g e c f n) {j : Nat} (hj : j < n) : w.cell? ⟨g, j, none⟩ = some (f j) := by
  obtain ⟨cur, h1, h2, h3⟩ := h
  rw [cell_of_heap h1, h3 j hj]
theorem Row.has (h : Row w g e c f n) {j : Nat} (hj : j < c) : ∃ v, w.cell? ⟨g, j, none⟩ = some v := by
  obtain ⟨cur, h1, h2, h3⟩ := h
  exact ⟨cur[j]'(by omega), by rw [cell_of_heap h1]; simp⟩
theorem Row.free (h : Row w g e c f n) (j : Nat) : w.frozen? ⟨g, j, none⟩ = false := by
  obtain ⟨cur, h1, h2, h3⟩ := h
  exact frozen_of_heap h1 j
theorem Row.kept {bs : List Nat} (h : Row w g e c f n) (k : Kept bs w w') (hn : g ∉ bs) : Row w' g e c f n := by
  obtain ⟨cur, h1, h2, h3⟩ := h
  exact ⟨cur, k.heap h1 hn, h2, h3⟩
theorem Row.alloc (h : Row w g e c f n) (o : Obj) : Row (w.alloc o) g e c f n := h.kept (bs := []) ((Kept.refl _ _).alloc o) (by simp)
theorem Row.congr {f' : Nat → Value} {m : Nat} (h : Row w g e c f n) (hm : m ≤ n) (hf : ∀ j, j < m → f j = f' j) : Row w g e c f' m := by
  obtain ⟨cur, h1, h2, h3⟩ := h
  exact ⟨cur, h1, h2, fun j hj => by rw [h3 j (by omega), hf j hj]⟩
theorem Row.store (h : Row w g e c f n) (j : Nat) (v : Value) {f' : Nat → Value} {m : Nat} (hj : j < c) (hm : ∀ i, i < m → i = j ∨ i < n) (h0 : j < m → f' j = v) (hf : ∀ i, i < m → i ≠ j → f' i = f i) :
    Row (w.setCell ⟨g, j, none⟩ v) g e c f' m := by
  obtain ⟨cur, h1, h2, h3⟩ := h
  refine ⟨cur.setIfInBounds j v, heap_setCell_self h1 j v, by simpa using h2, fun i hi => ?_⟩
  by_cases hij : i = j
  · subst hij
    rw [h0 hi, Array.getElem?_setIfInBounds_self_of_lt (by omega)]
  · rw [Array.getElem?_setIfInBounds_ne (fun e => hij e.symm), hf i hi hij]
    exact h3 i (by rcases hm i hi with h | h; exact absurd h hij; exact h)
end

theorem Row.made (w : World) (z : Value) (n : Nat) (e : TypeId) : Row (w.alloc (.cells (reps z n) e)) w.heap.size e n (fun _ => z) n :=
  ⟨_, heap_alloc_new w _, size_reps z n, fun j hj => get_reps z hj⟩

/-- A row of words. -/
abbrev WRow (w : World) (g c : Nat) (x : Nat → Nat) (n : Nat) : Prop := Row w g 88 c (fun j => .int .u64 (x j : Nat)) n
/-- A row of bytes. -/
abbrev BRow (w : World) (g c : Nat) (x : Nat → Nat) (n : Nat) : Prop := Row w g 5 c (fun j => .int .u8 (x j : Nat)) n

/-- v is a nat of n words x 0, x 1, .. (the lowest first): nil, or a slice at the head of a row of its own, whose block is B or later. -/
def NatV (B : Nat) (w : World) (v : Value) (n : Nat) (x : Nat → Nat) : Prop :=
  (v = .slice none 0 0 ∧ n = 0) ∨ ∃ g c, v = .slice (some ⟨g, 0, none⟩) n c ∧ B ≤ g ∧ n ≤ c ∧ c ≤ 9223372036854775807 ∧ WRow w g c x n

theorem NatV.alloc {B n : Nat} {w : World} {v : Value} {x : Nat → Nat} (h : NatV B w v n x) (o : Obj) : NatV B (w.alloc o) v n x := by
  rcases h with h | ⟨g, c, h1, h2, h3, h4, h5⟩
  · exact .inl h
  · exact .inr ⟨g, c, h1, h2, h3, h4, h5.alloc o⟩
theorem NatV.drew {B n : Nat} {w : World} {v : Value} {x : Nat → Nat} (h : NatV B w v n x) : NatV B w.drew v n x := h
theorem NatV.mono {B B' n : Nat} {w : World} {v : Value} {x : Nat → Nat} (h : NatV B w v n x) (hB : B' ≤ B) : NatV B' w v n x := by
  rcases h with h | ⟨g, c, h1, h2, h3, h4, h5⟩
  · exact .inl h
  · exact .inr ⟨g, c, h1, by omega, h3, h4, h5⟩
theorem NatV.shape {B n : Nat} {w : World} {v : Value} {x : Nat → Nat} (h : NatV B w v n x) : ∃ ao c, v = .slice ao n c := by
  rcases h with ⟨h, rfl⟩ | ⟨g, c, h, _⟩
  · exact ⟨_, _, h⟩
  · exact ⟨_, _, h⟩
theorem NatV.kept {B n : Nat} {w w' : World} {v : Value} {x : Nat → Nat} {bs : List Nat} (h : NatV B w v n x) (k : Kept bs w w') (hb : ∀ b ∈ bs, b < B ∨ ∀ ao c, v = .slice ao n c → ∀ a, ao = some a → a.block ≠ b) : NatV B w' v n x := by
  rcases h with h | ⟨g, c, h1, h2, h3, h4, h5⟩
  · exact .inl h
  · refine .inr ⟨g, c, h1, h2, h3, h4, h5.kept k fun hm => ?_⟩
    rcases hb g hm with hb | hb
    · omega
    · exact hb _ _ h1 _ rfl rfl

/-- A nat's row is no block of another kind: it stays where such a block alone is written. -/
theorem NatV.store {B n : Nat} {w w' : World} {v : Value} {x : Nat → Nat} {b : Nat} {c : Array Value} {t : TypeId} {fr : Nat × Nat} (h : NatV B w v n x) (hb : w.heap[b]? = some (.cells c t fr)) (ht : t ≠ 88) (k : Kept [b] w w') : NatV B w' v n x := by
  rcases h with h | ⟨g, c', h1, h2, h3, h4, h5⟩
  · exact .inl h
  · refine .inr ⟨g, c', h1, h2, h3, h4, h5.kept k fun hm => ?_⟩
    obtain ⟨cur, hg, _⟩ := h5
    have : g = b := by simpa using hm
    subst this
    rw [hg] at hb
    cases hb
    exact ht rfl

theorem run_neq_ptr_other {P : Program} (w : World) {tp te : TypeId} {j : TypeInfo} {a b : Addr} {ca cb : Array Value} {ta tb : TypeId} (hp : P.underlying tp = some (.pointer te)) (hte : P.info? te = some j) (hsz : j.size ≠ 0)
    (hne : a ≠ b) (ha : w.heap[a.block]? = some (.cells ca ta (0, 0))) (hb : w.heap[b.block]? = some (.cells cb tb (0, 0))) :
    (binOp .neq tp (.pointer (some a)) (.pointer (some b))).run P w = .ok (.bool true) w := by
  have h : ∀ d : Nat, (Op.equalIn (d + 1) tp (.pointer (some a)) (.pointer (some b))).run P w = .ok false w := fun d => by
    simp [Op.equalIn, run_underlying hp, sizeOf, typeInfo, hte, hsz, run_sameAddr_other w hne ha hb]
  simp only [binOp]
  simp [Op.equal, Op.maxDepth, h 9999]

theorem Tryz.sz65 : (Tryz.prog.info? 65).map (·.size) = some 2 := by kernel_rfl
theorem Tryz.sz67 : (Tryz.prog.info? 67).map (·.size) = some 3 := by kernel_rfl
theorem Tryz.sz69 : (Tryz.prog.info? 69).map (·.size) = some 6 := by kernel_rfl
theorem Tryz.size88 : (Tryz.prog.info? 88).map (·.size) = some 1 := by kernel_rfl
theorem info_of_size {P : Program} {t : TypeId} {n : Nat} (h : (P.info? t).map (·.size) = some (n + 1)) : ∃ j, P.info? t = some j ∧ j.size ≠ 0 := by
  obtain ⟨j, h1, h2⟩ := Option.map_eq_some_iff.1 h
  exact ⟨j, h1, by omega⟩

/-- Two stores into one block, behind what keeps it. -/
theorem two_stores {w w1 : World} {b : Nat} {c : Array Value} {t : TypeId} (hk : Kept [] w w1) (hb : w.heap[b]? = some (.cells c t (0, 0))) (i j : Nat) (u v : Value) :
    Kept [b] w ((w1.setCell ⟨b, i, none⟩ u).setCell ⟨b, j, none⟩ v) ∧
    ((w1.setCell ⟨b, i, none⟩ u).setCell ⟨b, j, none⟩ v).heap[b]? = some (.cells ((c.setIfInBounds i u).setIfInBounds j v) t (0, 0)) :=
  ⟨((hk.mono (by simp)).setCell _ _ (.inl (by simp))).setCell _ _ (.inl (by simp)), heap_setCell_self (heap_setCell_self (hk.heap hb (by simp)) i u) j v⟩

/-- The cells of a row behind a copy. -/
theorem wpList_copy_row {P : Program} {w : World} {ops : Array Oper} {rest : List Oper} {o : Oper} {a : Act} {Q : Exit → Act → World → Prop} (hgd : o.guard = none) (d s : Operand) (dT sT : TypeId)
    (ho : o.op = .call { callee := .builtin .copy, args := #[d, s], argTypes := #[dT, sT] }) (elem : TypeId) (hu : P.underlying dT = some (.slice elem)) (hsz : (P.info? elem).map (·.size) = some 1)
    (g dLen dCap : Nat) (ad : Addr) (sLen sCap : Nat) (hd : a.eval d = .slice (some ⟨g, 0, none⟩) dLen dCap) (hs : a.eval s = .slice (some ad) sLen sCap)
    (e : TypeId) (c m k : Nat) (f f' : Nat → Value) (hR : Row w g e c f m) (hk : Nat.min sLen dLen = k) (hfit : k ≤ c)
    (hsrc : ∀ j, j < k → w.cell? (ad.add j) = some (f' j)) (h1 : ∀ j, j < k → (f' j).oneCell' = true)
    (h : ∀ w', Hid (Row w' g e c f' k) → Kept [g] w w' → wpList P ops Q rest (a.put o.dst (goInt k)) w') : wpList P ops Q (o :: rest) a w := by
  obtain ⟨cur, hg, hc, hcur⟩ := hR
  have hlen : ((List.range k).map f').length = k := by simp
  refine wpList_copy_own hgd d s dT sT ho elem hu hsz g 0 dLen dCap ad sLen sCap hd hs cur e hg ((List.range k).map f') (by rw [hlen, hk]) ?_ (by rw [hlen]; omega) ?_ ?_
  · intro j v hj
    have hjk : j < k := by
      have := (List.getElem?_eq_some_iff.1 hj).1
      simpa using this
    simp [hjk] at hj
    rw [hsrc j hjk, hj]
  · intro v hv
    simp at hv
    obtain ⟨j, hj, rfl⟩ := hv
    exact h1 j hj
  · rw [hlen]
    refine h _ (hid ⟨_, setRow_heap w g cur _ e _ hg, ?_, ?_⟩) ?_
    · simp; omega
    · intro j hj
      simp
      rw [List.getElem?_append_left (by simpa using hj)]
      simp [hj]
    · exact ⟨rfl, rfl, rfl, by simp [World.setRow], fun i hi hn => setRow_other w g i _ (by simpa using hn)⟩

end Go.Proofs.YtofmickjbpkgbaaGreatDoor
