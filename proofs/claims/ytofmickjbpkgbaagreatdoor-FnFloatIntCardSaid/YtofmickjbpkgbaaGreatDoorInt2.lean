import Derived.Test.YtofmickjbpkgbaaGreatDoorInt1
namespace Go.Proofs.YtofmickjbpkgbaaGreatDoor
open Go.RowKit
set_option maxRecDepth 100000

theorem get_set_ne {c : Array Value} {i j : Nat} {u v : Value} (h : i ≠ j) (hc : c[j]? = some v) : (c.setIfInBounds i u)[j]? = some v :=
  (Array.getElem?_setIfInBounds_ne h).trans hc

/-- BigInt.Set onto a new BigInt. -/
theorem bigSet_any (bz oz bx ox n : Nat) (zneg xneg zm xm : Bool) (xabs : Value) (cz cx : Array Value) (tz tx : TypeId) (x : Nat → Nat) (w : World) (hne : bz ≠ bx) (hn : n ≤ 900000)
    (hbz : w.heap[bz]? = some (.cells cz tz (0, 0))) (hz0 : cz[oz]? = some (.bool zneg)) (hz1 : cz[oz + 1]? = some (.slice none 0 0)) (hz2 : cz[oz + 2]? = some (.bool zm))
    (hbx : w.heap[bx]? = some (.cells cx tx (0, 0))) (hx0 : cx[ox]? = some (.bool xneg)) (hx1 : cx[ox + 1]? = some xabs) (hx2 : cx[ox + 2]? = some (.bool xm)) (hx : NatV 0 w xabs n x) (ht : tz ≠ 88) :
    Calls Tryz.prog 25 #[.pointer (some ⟨bz, oz, none⟩), .pointer (some ⟨bx, ox, none⟩)] w fun e w' =>
      e = .returned (.pointer (some ⟨bz, oz, none⟩)) ∧ ∃ v', NatV w.heap.size w' v' n x ∧ Kept [bz] w w' ∧
        w'.heap[bz]? = some (.cells (((cz.setIfInBounds (oz + 2) (.bool xm)).setIfInBounds (oz + 1) v').setIfInBounds oz (.bool xneg)) tz (0, 0)) := by
  have z2 := (cell_of_heap hbz (oz + 2)).trans hz2
  have x2 := (cell_of_heap hbx (ox + 2)).trans hx2
  have fz2 := frozen_of_heap hbz (oz + 2)
  have hk0 := (Kept.refl [bz] w).setCell ⟨bz, oz + 2, none⟩ (.bool xm) (.inl (by simp))
  have HZ := hid (heap_setCell_self hbz (oz + 2) (.bool xm))
  have HX := hid (heap_setCell_other hbx ⟨bz, oz + 2, none⟩ (.bool xm) hne)
  have C0 := hid (get_set_ne (i := oz + 2) (u := .bool xm) (by omega) hz0)
  have C1 := hid (get_set_ne (i := oz + 2) (u := .bool xm) (by omega) hz1)
  have X0 := hid hx0
  have X1 := hid hx1
  have HN := hid (hx.store hbz ht hk0)
  have HK := hid hk0
  clear hbz hbx hz0 hz1 hz2 hx0 hx1 hx2 hk0
  go_enter Tryz.func25, Tryz.ntmps25
  go_wp2_with fail
  go_region_with
    (first | (go_at_call 33; refine (intSet_any bz oz bx ox n zneg xneg xabs _ cx tz tx x ((w.setCell ⟨bz, oz + 2, none⟩ (.bool xm)).drew) hne hn HZ.out C0.out C1.out HX.out X0.out X1.out HN.out.drew).mono ?_; rintro e w' ⟨rfl, v', hv', hk, hb⟩; have HB := hid hb; clear hb))
  go_wp2
  go_ret
  exact ⟨rfl, v', by simpa using hv', HK.out.trans hk.ofDrew (by simp) (by simp), HB.out⟩
end Go.Proofs.YtofmickjbpkgbaaGreatDoor
