import Derived.Test.YtofmickjbpkgbaaGreatDoorNat1
namespace Go.Proofs.YtofmickjbpkgbaaGreatDoor
open Go.RowKit
set_option maxRecDepth 100000

/-- Int.Set of another Int, onto a nil one. -/
theorem intSet_walk (bz oz bx ox n : Nat) (zneg xneg : Bool) (xabs : Value) (cz cx : Array Value) (tz tx : TypeId) (x : Nat → Nat) (w : World) (hne : bz ≠ bx) (hn : n ≤ 900000)
    (hbz : w.heap[bz]? = some (.cells cz tz (0, 0))) (hz0 : cz[oz]? = some (.bool zneg)) (hz1 : cz[oz + 1]? = some (.slice none 0 0))
    (hbx : w.heap[bx]? = some (.cells cx tx (0, 0))) (hx0 : cx[ox]? = some (.bool xneg)) (hx1 : cx[ox + 1]? = some xabs) (hx : NatV 0 w xabs n x) :
    Calls Tryz.prog 33 #[.pointer (some ⟨bz, oz, none⟩), .pointer (some ⟨bx, ox, none⟩)] w fun e w' =>
      e = .returned (.pointer (some ⟨bz, oz, none⟩)) ∧ ∃ v' w1, NatV w.heap.size w1 v' n x ∧ Kept [] w w1 ∧ w' = (w1.setCell ⟨bz, oz + 1, none⟩ v').setCell ⟨bz, oz, none⟩ (.bool xneg) := by
  obtain ⟨ao, c, rfl⟩ := hx.shape
  obtain ⟨j, hj1, hj2⟩ := info_of_size Tryz.sz65
  have hq := run_neq_ptr_other (P := Tryz.prog) w (tp := 86) (a := ⟨bz, oz, none⟩) (b := ⟨bx, ox, none⟩) Tryz.underlying86 hj1 hj2 (fun h => hne (congrArg Addr.block h)) hbz hbx
  have z0 := (cell_of_heap hbz oz).trans hz0
  have z1 := (cell_of_heap hbz (oz + 1)).trans hz1
  have x0 := (cell_of_heap hbx ox).trans hx0
  have x1 := (cell_of_heap hbx (ox + 1)).trans hx1
  have fz0 := frozen_of_heap hbz oz
  have fz1 := frozen_of_heap hbz (oz + 1)
  have HZ := hid hbz
  clear hbz hbx hz0 hz1 hx0 hx1 hj1 hj2
  go_enter Tryz.func33, Tryz.ntmps33
  go_wp2_with fail
  go_region_with
    (first | (go_at_call 45; refine (set_any _ n x _ hn hx.drew).mono ?_; rintro e w' ⟨v', rfl, hv', hk⟩; obtain ⟨ao', c', rfl⟩ := hv'.shape; have k3 := (hk.frozen (p := ⟨bz, oz + 1, none⟩) (lt_of_heap (w := w) HZ.out) List.not_mem_nil).trans fz1; have k1 := hk.cellOf (w := w.drew) z1 List.not_mem_nil; have k2 := hk.cellOf (w := w.drew) x1 List.not_mem_nil))
  all_goals
    have k4 := hk.cellOf (w := w.drew) x0 List.not_mem_nil
    have k5 := hk.cellOf (w := w.drew) z0 List.not_mem_nil
    have k6 := (hk.frozen (p := ⟨bz, oz, none⟩) (lt_of_heap (w := w) HZ.out) List.not_mem_nil).trans fz0
    go_wp2
    go_ret
    exact ⟨rfl, _, _, hv', hk.ofDrew, rfl⟩

theorem intSet_any (bz oz bx ox n : Nat) (zneg xneg : Bool) (xabs : Value) (cz cx : Array Value) (tz tx : TypeId) (x : Nat → Nat) (w : World) (hne : bz ≠ bx) (hn : n ≤ 900000)
    (hbz : w.heap[bz]? = some (.cells cz tz (0, 0))) (hz0 : cz[oz]? = some (.bool zneg)) (hz1 : cz[oz + 1]? = some (.slice none 0 0))
    (hbx : w.heap[bx]? = some (.cells cx tx (0, 0))) (hx0 : cx[ox]? = some (.bool xneg)) (hx1 : cx[ox + 1]? = some xabs) (hx : NatV 0 w xabs n x) :
    Calls Tryz.prog 33 #[.pointer (some ⟨bz, oz, none⟩), .pointer (some ⟨bx, ox, none⟩)] w fun e w' =>
      e = .returned (.pointer (some ⟨bz, oz, none⟩)) ∧ ∃ v', NatV w.heap.size w' v' n x ∧ Kept [bz] w w' ∧
        w'.heap[bz]? = some (.cells ((cz.setIfInBounds (oz + 1) v').setIfInBounds oz (.bool xneg)) tz (0, 0)) := by
  refine (intSet_walk bz oz bx ox n zneg xneg xabs cz cx tz tx x w hne hn hbz hz0 hz1 hbx hx0 hx1 hx).mono ?_
  rintro e w' ⟨he, v', w1, hv, hk, rfl⟩
  have hs := two_stores hk hbz (oz + 1) oz v' (.bool xneg)
  have hl := lt_of_heap hbz
  refine ⟨he, v', ?_, hs.1, hs.2⟩
  exact (hv.kept (((Kept.refl [bz] w1).setCell ⟨bz, oz + 1, none⟩ v' (.inl (by simp))).setCell ⟨bz, oz, none⟩ (.bool xneg) (.inl (by simp))) (by simpa using Or.inl hl))

theorem norm_nat (B l : Nat) (v : Value) (x : Nat → Nat) (w : World) (hx : NatV B w v l x) :
    Calls Tryz.prog 46 #[v] w fun e w' => ∃ n ao c, e = .returned (.slice ao n c) ∧ v = .slice ao l c ∧ NormAt x l n ∧ NatV B w (.slice ao n c) n x ∧ w' = w := by
  rcases hx with ⟨rfl, rfl⟩ | ⟨g, c, rfl, hB, hlc, hc, hR⟩
  · exact (norm_empty none 0 w (by omega)).mono fun e w' ⟨h1, h2⟩ => ⟨0, none, 0, h1, rfl, ⟨by omega, .inl rfl, fun j _ h => by omega⟩, .inl ⟨rfl, rfl⟩, h2⟩
  · refine (norm_any g 0 l c x w hlc (by omega) (fun j hj => by rw [Nat.zero_add]; exact hR.cell hj)).mono ?_
    rintro e w' ⟨n, hn, rfl, rfl⟩
    exact ⟨n, _, c, rfl, rfl, hn, .inr ⟨g, c, rfl, hB, by have := hn.1; omega, hc, hR.congr hn.1 fun _ _ => rfl⟩, rfl⟩

/-- Int.SetBits onto a new Int. -/
theorem setBits_walk (bz oz l : Nat) (zneg : Bool) (zabs : Value) (v : Value) (cz : Array Value) (tz : TypeId) (x : Nat → Nat) (w : World) (hl : l ≤ 900000)
    (hbz : w.heap[bz]? = some (.cells cz tz (0, 0))) (hz0 : cz[oz]? = some (.bool zneg)) (hz1 : cz[oz + 1]? = some zabs) (hx : NatV 0 w v l x) :
    Calls Tryz.prog 35 #[.pointer (some ⟨bz, oz, none⟩), v] w fun e w' =>
      e = .returned (.pointer (some ⟨bz, oz, none⟩)) ∧ ∃ n ao c, NormAt x l n ∧ NatV 0 w (.slice ao n c) n x ∧ w' = (w.setCell ⟨bz, oz + 1, none⟩ (.slice ao n c)).setCell ⟨bz, oz, none⟩ (.bool false) := by
  have z0 := (cell_of_heap hbz oz).trans hz0
  have z1 := (cell_of_heap hbz (oz + 1)).trans hz1
  have fz0 := frozen_of_heap hbz oz
  have fz1 := frozen_of_heap hbz (oz + 1)
  clear hbz hz0 hz1
  go_enter Tryz.func35, Tryz.ntmps35
  go_wp2_with fail
  refine (norm_nat 0 l v x w hx).mono ?_
  rintro e w' ⟨n, ao, c, rfl, hv, hn, hN, rfl⟩
  clear hv
  go_wp2
  go_ret
  exact ⟨rfl, n, ao, c, hn, hN, rfl⟩

theorem setBits_any (bz oz l : Nat) (zneg : Bool) (zabs : Value) (v : Value) (cz : Array Value) (tz : TypeId) (x : Nat → Nat) (w : World) (hl : l ≤ 900000)
    (hbz : w.heap[bz]? = some (.cells cz tz (0, 0))) (hz0 : cz[oz]? = some (.bool zneg)) (hz1 : cz[oz + 1]? = some zabs) (hx : NatV 0 w v l x) (ht : tz ≠ 88) :
    Calls Tryz.prog 35 #[.pointer (some ⟨bz, oz, none⟩), v] w fun e w' =>
      e = .returned (.pointer (some ⟨bz, oz, none⟩)) ∧ ∃ n v', NormAt x l n ∧ NatV 0 w' v' n x ∧ Kept [bz] w w' ∧
        w'.heap[bz]? = some (.cells ((cz.setIfInBounds (oz + 1) v').setIfInBounds oz (.bool false)) tz (0, 0)) := by
  refine (setBits_walk bz oz l zneg zabs v cz tz x w hl hbz hz0 hz1 hx).mono ?_
  rintro e w' ⟨he, n, ao, c, hn, hN, rfl⟩
  have hs := two_stores (Kept.refl [] w) hbz (oz + 1) oz (.slice ao n c) (.bool false)
  exact ⟨he, n, _, hn, hN.store hbz ht hs.1, hs.1, hs.2⟩

/-- BigInt.SetMathBigInt onto a new BigInt. -/
theorem setMath_any (bz oz bx ox n : Nat) (zneg xneg zm : Bool) (xabs : Value) (cz cx : Array Value) (tz tx : TypeId) (x : Nat → Nat) (w : World) (hne : bz ≠ bx) (hn : n ≤ 900000)
    (hbz : w.heap[bz]? = some (.cells cz tz (0, 0))) (hz0 : cz[oz]? = some (.bool zneg)) (hz1 : cz[oz + 1]? = some (.slice none 0 0)) (hz2 : cz[oz + 2]? = some (.bool zm))
    (hbx : w.heap[bx]? = some (.cells cx tx (0, 0))) (hx0 : cx[ox]? = some (.bool xneg)) (hx1 : cx[ox + 1]? = some xabs) (hx : NatV 0 w xabs n x) (ht : tz ≠ 88) :
    Calls Tryz.prog 34 #[.pointer (some ⟨bz, oz, none⟩), .pointer (some ⟨bx, ox, none⟩)] w fun e w' =>
      e = .returned (.pointer (some ⟨bz, oz, none⟩)) ∧ ∃ v', NatV w.heap.size w' v' n x ∧ Kept [bz] w w' ∧
        w'.heap[bz]? = some (.cells (((cz.setIfInBounds (oz + 2) (.bool false)).setIfInBounds (oz + 1) v').setIfInBounds oz (.bool xneg)) tz (0, 0)) := by
  have z2 := (cell_of_heap hbz (oz + 2)).trans hz2
  have fz2 := frozen_of_heap hbz (oz + 2)
  have h1 := heap_setCell_self hbz (oz + 2) (.bool false)
  have h2 := heap_setCell_other hbx ⟨bz, oz + 2, none⟩ (.bool false) hne
  have HZ := hid h1
  have HX := hid h2
  have C0 := hid ((Array.getElem?_setIfInBounds_ne (xs := cz) (i := oz + 2) (j := oz) (by omega)).trans hz0 : (cz.setIfInBounds (oz + 2) (.bool false))[oz]? = _)
  have C1 := hid ((Array.getElem?_setIfInBounds_ne (xs := cz) (i := oz + 2) (j := oz + 1) (by omega)).trans hz1 : (cz.setIfInBounds (oz + 2) (.bool false))[oz + 1]? = _)
  have X0 := hid hx0
  have X1 := hid hx1
  have HN := hid (hx.store hbz ht ((Kept.refl [bz] w).setCell ⟨bz, oz + 2, none⟩ (.bool false) (.inl (by simp))))
  clear hbz hbx h1 h2 hz0 hz1 hz2 hx0 hx1
  go_enter Tryz.func34, Tryz.ntmps34
  go_wp2_with fail
  refine (intSet_any bz oz bx ox n zneg xneg xabs _ cx tz tx x _ hne hn HZ.out C0.out C1.out HX.out X0.out X1.out HN.out).mono ?_
  rintro e w' ⟨rfl, v', hv', hk, hb⟩
  have HB := hid hb
  clear hb
  go_wp2
  go_ret
  exact ⟨rfl, v', by simpa using hv', ((Kept.refl [bz] w).setCell ⟨bz, oz + 2, none⟩ (.bool false) (.inl (by simp))).trans hk (by simp) (by simp), HB.out⟩
end Go.Proofs.YtofmickjbpkgbaaGreatDoor
