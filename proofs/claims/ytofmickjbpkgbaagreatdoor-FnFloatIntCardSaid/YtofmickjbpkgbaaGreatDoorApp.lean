import Derived.Test.YtofmickjbpkgbaaGreatDoorBase
import Derived.Deep.AppendSrc
namespace Go.Proofs.YtofmickjbpkgbaaGreatDoor
open Go.RowKit
set_option maxRecDepth 100000

/-- v is a slice of n one-cell elements f 0, f 1, ..: nil, or at the head of a row of its own (of a block type that T allows), whose block is B or later. -/
def SV (T : TypeId → Prop) (B : Nat) (w : World) (v : Value) (n : Nat) (f : Nat → Value) : Prop :=
  (v = .slice none 0 0 ∧ n = 0) ∨ ∃ g c t, v = .slice (some ⟨g, 0, none⟩) n c ∧ B ≤ g ∧ n ≤ c ∧ c ≤ 9223372036854775807 ∧ T t ∧ Row w g t c f n

theorem SV.nil (T : TypeId → Prop) (B : Nat) (w : World) (f : Nat → Value) : SV T B w (.slice none 0 0) 0 f := .inl ⟨rfl, rfl⟩

theorem SV.nat {B : Nat} {w : World} {v : Value} {n : Nat} {x : Nat → Nat} (h : SV (· = 88) B w v n (fun j => .int .u64 (x j : Nat))) : NatV B w v n x := by
  rcases h with h | ⟨g, c, t, h1, h2, h3, h4, h5, h6⟩
  · exact .inl h
  · subst h5; exact .inr ⟨g, c, h1, h2, h3, h4, h6⟩
theorem NatV.sv {B : Nat} {w : World} {v : Value} {n : Nat} {x : Nat → Nat} (h : NatV B w v n x) : SV (· = 88) B w v n (fun j => .int .u64 (x j : Nat)) := by
  rcases h with h | ⟨g, c, h1, h2, h3, h4, h6⟩
  · exact .inl h
  · exact .inr ⟨g, c, 88, h1, h2, h3, h4, rfl, h6⟩

section
variable {T : TypeId → Prop} {B n : Nat} {w w' : World} {v : Value} {f : Nat → Value}

theorem SV.alloc (h : SV T B w v n f) (o : Obj) : SV T B (w.alloc o) v n f := by
  rcases h with h | ⟨g, c, t, h1, h2, h3, h4, h5, h6⟩
  · exact .inl h
  · exact .inr ⟨g, c, t, h1, h2, h3, h4, h5, h6.alloc o⟩
theorem SV.drew (h : SV T B w v n f) : SV T B w.drew v n f := h
theorem SV.shape (h : SV T B w v n f) : ∃ ao c, v = .slice ao n c := by
  rcases h with ⟨h, rfl⟩ | ⟨g, c, t, h, _⟩
  · exact ⟨_, _, h⟩
  · exact ⟨_, _, h⟩
theorem SV.mono {B' : Nat} (h : SV T B w v n f) (hB : B' ≤ B) : SV T B' w v n f := by
  rcases h with h | ⟨g, c, t, h1, h2, h3, h4, h5, h6⟩
  · exact .inl h
  · exact .inr ⟨g, c, t, h1, by omega, h3, h4, h5, h6⟩
theorem SV.weaken {T' : TypeId → Prop} (h : SV T B w v n f) (hT : ∀ t, T t → T' t) : SV T' B w v n f := by
  rcases h with h | ⟨g, c, t, h1, h2, h3, h4, h5, h6⟩
  · exact .inl h
  · exact .inr ⟨g, c, t, h1, h2, h3, h4, hT t h5, h6⟩
theorem SV.congr {f' : Nat → Value} (h : SV T B w v n f) (hf : ∀ j, j < n → f j = f' j) : SV T B w v n f' := by
  rcases h with h | ⟨g, c, t, h1, h2, h3, h4, h5, h6⟩
  · exact .inl h
  · exact .inr ⟨g, c, t, h1, h2, h3, h4, h5, h6.congr (Nat.le_refl _) hf⟩
theorem SV.kept {bs : List Nat} (h : SV T B w v n f) (k : Kept bs w w') (hb : ∀ b ∈ bs, v.ownBlock ≠ some b) : SV T B w' v n f := by
  rcases h with h | ⟨g, c, t, h1, h2, h3, h4, h5, h6⟩
  · exact .inl h
  · exact .inr ⟨g, c, t, h1, h2, h3, h4, h5, h6.kept k fun hm => hb g hm (by rw [h1]; rfl)⟩
theorem SV.cell (h : SV T B w v n f) {ao : Option Addr} {c : Nat} (hv : v = .slice ao n c) {j : Nat} (hj : j < n) : ∃ g, ao = some ⟨g, 0, none⟩ ∧ w.cell? ⟨g, j, none⟩ = some (f j) := by
  rcases h with ⟨h, rfl⟩ | ⟨g, c', t, h1, h2, h3, h4, h5, h6⟩
  · omega
  · subst h1
    cases hv
    exact ⟨g, rfl, h6.cell hj⟩
end

/-- The elements of an appended slice. -/
def appF (n : Nat) (f f' : Nat → Value) : Nat → Value := fun j => if j < n then f j else f' (j - n)

theorem range_map_get (f : Nat → Value) {n j : Nat} (h : j < n) : ((List.range n).map f)[j]? = some (f j) := by
  rw [List.getElem?_map, List.getElem?_range h]; rfl

theorem appF_get (f f' : Nat → Value) {n m j : Nat} (h : j < n + m) : ((List.range n).map f ++ (List.range m).map f')[j]? = some (appF n f f' j) := by
  unfold appF
  by_cases hj : j < n
  · rw [if_pos hj, List.getElem?_append_left (by simpa using hj), range_map_get f hj]
  · rw [if_neg hj, List.getElem?_append_right (by simp; omega), List.length_map, List.length_range, range_map_get f' (by omega)]

theorem row_setCells {w : World} {g : Nat} {cur : Array Value} {t : TypeId} : ∀ (vs : List Value) (w : World) (cur : Array Value) (k : Nat), w.heap[g]? = some (.cells cur t (0, 0)) → k + vs.length ≤ cur.size →
    ∃ cur', (w.setCells g k vs).heap[g]? = some (.cells cur' t (0, 0)) ∧ cur'.size = cur.size ∧ (∀ j, j < k → cur'[j]? = cur[j]?) ∧ (∀ j v, vs[j]? = some v → cur'[k + j]? = some v) ∧ Kept [g] w (w.setCells g k vs)
  | [], w, cur, k, hg, hl => ⟨cur, by simpa [World.setCells] using hg, rfl, fun _ _ => rfl, fun j v h => by simp at h, by simpa [World.setCells] using Kept.refl [g] w⟩
  | v :: vs, w, cur, k, hg, hl => by
    have hk : k < cur.size := by simp at hl; omega
    obtain ⟨cur', h1, h2, h3, h4, h5⟩ := row_setCells (w := w) (cur := cur) vs (w.setCell ⟨g, k, none⟩ v) (cur.setIfInBounds k v) (k + 1) (heap_setCell_self hg k v) (by simp at hl ⊢; omega)
    refine ⟨cur', by simpa [World.setCells] using h1, by simpa using h2, fun j hj => ?_, fun j u hj => ?_, ?_⟩
    · rw [h3 j (by omega), Array.getElem?_setIfInBounds_ne (by omega)]
    · match j, hj with
      | 0, hj =>
        simp at hj
        subst hj
        rw [Nat.add_zero, h3 k (by omega), Array.getElem?_setIfInBounds_self_of_lt hk]
      | j + 1, hj =>
        have := h4 j u (by simpa using hj)
        rwa [show k + 1 + j = k + (j + 1) by omega] at this
    · have := ((Kept.refl [g] w).setCell ⟨g, k, none⟩ v (.inl (by simp))).trans h5 (ds := [g]) (by simp) (by simp)
      simpa [World.setCells] using this

/-- 'append' onto such a slice, whatever is appended. -/
theorem run_append_sv {P : Program} (w : World) {T : TypeId → Prop} {B n m : Nat} {v x : Value} {f f' : Nat → Value} (t tx ty e : TypeId) (i : TypeInfo) (z : Value) (bytes : Nat)
    (ht : P.underlying t = some (.slice e)) (hi : P.info? e = some i) (hz : i.zero = some z) (hsize : i.size = 1) (hby : i.bytes = bytes) (hzs : z.cells.size = 1) (hT : T e)
    (hv : SV T B w v n f) (hs : Src P 1 tx x m ((List.range m).map f') w) (h63 : n + m ≤ 9223372036854775807) (hb : (n + m) * bytes ≤ 140737488355328) (hB : B ≤ w.heap.size) :
    ∃ v' w', (Builtin.append_ #[t, tx] ty #[v, x]).run P w = .ok v' w' ∧ SV T B w' v' (n + m) (appF n f f') ∧ Kept v.ownBlock.toList w w' ∧ ∀ k, v'.ownBlock = some k → v.ownBlock = some k ∨ w.heap.size ≤ k := by
  have grow : ∀ (base : Option Addr) (cap : Nat), v = .slice base n cap → cap < n + m → (∀ w', (Builtin.firstCells i.size n (.slice base n cap)).run P w.drew = .ok ((List.range n).map f).toArray w.drew ∨ w' ≠ w.drew) →
      ∃ v' w', (Builtin.append_ #[t, tx] ty #[v, x]).run P w = .ok v' w' ∧ SV T B w' v' (n + m) (appF n f f') ∧ Kept v.ownBlock.toList w w' ∧ ∀ k, v'.ownBlock = some k → v.ownBlock = some k ∨ w.heap.size ≤ k := by
    intro base cap hve hcap hold
    subst hve
    have hold' := (hold w.drew).resolve_right (by simp)
    have hge := grownCap_ge w (n + m) cap e
    have hcm : grownCap w (n + m) cap e ≤ 9223372036854775807 := by have := grownCap_le_maxLen w (n + m) cap e (by unfold maxLen; omega); unfold maxLen at this; omega
    have hr := run_append_grow_src (P := P) w t tx ty e i z ht hi hz base n cap ((List.range n).map f) hold' x m ((List.range m).map f') (by rw [hsize]; exact hs) hcap (by omega) (growslice_fits hcap (by rw [hby]; exact hb))
    refine ⟨_, _, hr, .inr ⟨w.heap.size, _, e, rfl, hB, hge, hcm, hT, _, heap_alloc_new w.drew _, ?_, ?_⟩, ?_, ?_⟩
    · simp [size_zeroCells, hzs]; omega
    · intro j hj
      rw [Array.getElem?_append_left (by simp; omega), List.getElem?_toArray]
      exact appF_get f f' hj
    · exact (((Kept.refl _ w).drew).alloc _)
    · intro k hk; right; simp [Value.ownBlock] at hk; omega
  rcases hv with ⟨rfl, rfl⟩ | ⟨g, cap, t', rfl, hBg, hnc, hcm, hTt, hR⟩
  · by_cases hm : m = 0
    · subst hm
      refine ⟨.slice none 0 0, w, ?_, .inl ⟨rfl, rfl⟩, Kept.refl _ _, fun k hk => .inl hk⟩
      have hc := hs.cells
      have hl := hs.len
      rcases hs.kind with ⟨e', hk⟩ | hk <;> simp [Builtin.append_, run_underlying ht, run_underlying hk, sizeOf, typeInfo, hi, hsize, hl, hc]
    · exact grow none 0 rfl (by omega) fun w' => .inl (by simp [Builtin.firstCells])
  · by_cases hroom : n + m ≤ cap
    · obtain ⟨cur, hg, hcs, hcur⟩ := hR
      have hr := run_append_room_src (P := P) w t tx ty e i ht hi g 0 n cap x m ((List.range m).map f') (by rw [hsize]; exact hs) hroom
        (fun j hj => by rw [cell_of_heap hg]; simp at hj ⊢; simp [hsize]; omega) (fun j hj => frozen_of_heap hg _)
      obtain ⟨cur', h1, h2, h3, h4, h5⟩ := row_setCells (w := w) (cur := cur) ((List.range m).map f') w cur n hg (by simp; omega)
      rw [hsize, Nat.mul_one, Nat.zero_add] at hr
      refine ⟨_, _, hr, .inr ⟨g, cap, t', rfl, hBg, hroom, hcm, hTt, cur', h1, by omega, ?_⟩, h5, fun k hk => .inl hk⟩
      intro j hj
      unfold appF
      by_cases h : j < n
      · rw [h3 j h, if_pos h]; exact hcur j h
      · rw [if_neg h]
        have := h4 (j - n) (f' (j - n)) (range_map_get f' (by omega))
        rwa [show n + (j - n) = j by omega] at this
    · refine grow (some ⟨g, 0, none⟩) cap rfl (by omega) fun w' => .inl ?_
      refine run_firstCells_some (P := P) w.drew i.size n ⟨g, 0, none⟩ n cap _ (by simp [hsize]) ?_
      intro j u hj
      rw [Addr.add_lit, Nat.zero_add]
      have hjn : j < n := by
        have := (List.getElem?_eq_some_iff.1 hj).1
        simpa using this
      have := hR.cell hjn
      simp [hjn] at hj
      rw [World.cell?_drew, this, hj]

theorem wpList_append_sv {P : Program} (w : World) {ops : Array Oper} {rest : List Oper} {o : Oper} {a : Act} {Q : Exit → Act → World → Prop}
    (hg : o.guard = none) (s x : Operand) (t tx : TypeId) (hop : o.op = Op.call { callee := Callee.builtin Builtin.append, args := #[s, x], argTypes := #[t, tx] })
    (e : TypeId) (i : TypeInfo) (z : Value) (bytes : Nat) (h1 : P.underlying t = some (.slice e)) (h2 : P.info? e = some i) (h3 : i.zero = some z) (h4 : i.size = 1) (h5 : i.bytes = bytes) (h6 : z.cells.size = 1)
    (T : TypeId → Prop) (hT : T e) (B n m : Nat) (v xv : Value) (f f' : Nat → Value) (hsv : a.eval s = v) (hv : SV T B w v n f) (hxv : a.eval x = xv) (hs : Src P 1 tx xv m ((List.range m).map f') w)
    (h63 : n + m ≤ 9223372036854775807) (hb : (n + m) * bytes ≤ 140737488355328) (hB : B ≤ w.heap.size)
    (hK : ∀ v' w', SV T B w' v' (n + m) (appF n f f') → Kept v.ownBlock.toList w w' → Hid (∀ k, v'.ownBlock = some k → v.ownBlock = some k ∨ w.heap.size ≤ k) → wpList P ops Q rest (a.put o.dst v') w') :
    wpList P ops Q (o :: rest) a w := by
  refine wpList_plain hg fun K hK' => ?_
  obtain ⟨v', w', hr, r1, r2, r3⟩ := run_append_sv (P := P) w t tx o.type e i z bytes h1 h2 h3 h4 h5 h6 hT hv hs h63 hb hB
  unfold Oper.wp
  simp [execOp, hop, resolve, invoke, builtin, hsv, hxv, hr, Result.andThen]
  exact hK' _ _ (hK v' w' r1 r2 r3)

/-- What one new element in a block of its own yields. -/
theorem Src.one {P : Program} (w : World) (t e e' : TypeId) (u : Value) (hk : P.underlying t = some (.slice e)) (h1 : u.oneCell' = true) :
    Src P 1 t (.slice (some ⟨w.heap.size, 0, none⟩) 1 1) 1 ((List.range 1).map fun _ => u) (w.alloc (.cells #[u] e')) := by
  refine Src.ofSlice _ hk _ 1 1 _ (by simp) ?_ (by simpa using h1)
  intro j v hj
  match j, hj with
  | 0, hj => simp at hj; subst hj; simp [Addr.add]

/-- What a slice of such a kind yields. -/
theorem SV.src {P : Program} {T : TypeId → Prop} {B n : Nat} {w : World} {v : Value} {f : Nat → Value} (t e : TypeId) (hk : P.underlying t = some (.slice e)) (h : SV T B w v n f) (h1 : ∀ j, j < n → (f j).oneCell' = true) :
    Src P 1 t v n ((List.range n).map f) w := by
  have hone : ∀ u ∈ (List.range n).map f, u.oneCell' = true := by
    intro u hu
    obtain ⟨j, hj, rfl⟩ := List.mem_map.1 hu
    exact h1 j (by simpa using hj)
  rcases h with ⟨rfl, rfl⟩ | ⟨g, c, t', rfl, h2, h3, h4, h5, h6⟩
  · exact Src.ofNil w hk 0
  · refine Src.ofSlice _ hk _ n c _ (by simp) ?_ hone
    intro j v hj
    have hjn : j < n := by
      have := (List.getElem?_eq_some_iff.1 hj).1
      simpa using this
    rw [range_map_get f hjn] at hj
    rw [Addr.add_lit, Nat.zero_add, h6.cell hjn, hj]

/-- What a piece of a row yields. -/
theorem Row.src {P : Program} {w : World} {g c n : Nat} {e' : TypeId} {f : Nat → Value} (t e : TypeId) (hk : P.underlying t = some (.slice e)) (h : Row w g e' c f n) (off m cap : Nat) (hm : off + m ≤ n) (h1 : ∀ j, j < n → (f j).oneCell' = true) :
    Src P 1 t (.slice (some ⟨g, off, none⟩) m cap) m ((List.range m).map fun j => f (off + j)) w := by
  refine Src.ofSlice _ hk _ m cap _ (by simp) ?_ ?_
  · intro j v hj
    have hjn : j < m := by
      have := (List.getElem?_eq_some_iff.1 hj).1
      simpa using this
    rw [range_map_get _ hjn] at hj
    rw [Addr.add_lit, h.cell (by omega), hj]
  · intro u hu
    obtain ⟨j, hj, rfl⟩ := List.mem_map.1 hu
    exact h1 _ (by have : j < m := by simpa using hj
                   omega)

end Go.Proofs.YtofmickjbpkgbaaGreatDoor
