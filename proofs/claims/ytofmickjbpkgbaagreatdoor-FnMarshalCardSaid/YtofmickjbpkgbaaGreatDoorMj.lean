import Derived.Test.YtofmickjbpkgbaaGreatDoorMe
import Derived.Test.YtofmickjbpkgbaaGreatDoorMg
set_option maxRecDepth 100000
namespace Go.Proofs.YtofmickjbpkgbaaGreatDoor
section
open Go.RowKit

set_option maxHeartbeats 1000000 in
theorem intScan_any (bz oz b n : Nat) (zneg : Bool) (cz : Array Value) (tz : TypeId) (a : Addr) (l : List UInt8) (w : World) (hn : n = l.length) (h0 : 0 < l.length) (hl : l.length ≤ 100000) (hd : IsDig l)
    (h : Rd w b l 0) (hE : w.cell? ⟨14, 0, none⟩ = some (.iface 166 (.pointer (some a)))) (hb14 : b ≠ 14) (hne : bz ≠ b) (ht : tz ≠ 88)
    (hbz : w.heap[bz]? = some (.cells cz tz (0, 0))) (hz0 : cz[oz]? = some (.bool zneg)) (hz1 : cz[oz + 1]? = some (.slice none 0 0)) :
    Calls Tryz.prog 206 #[.pointer (some ⟨bz, oz, none⟩), .iface 233 (.pointer (some ⟨b, 0, none⟩)), .int .i64 10] w fun e w' =>
      e = .returned (.tuple #[.pointer (some ⟨bz, oz, none⟩), .int .i64 10, .nilIface]) ∧ ∃ v', NumV w.heap.size w' v' (dval l) ∧ Rd w' b l n ∧ Kept [bz, b] w w' ∧
        w'.heap[bz]? = some (.cells ((cz.setIfInBounds (oz + 1) v').setIfInBounds oz (.bool false)) tz (0, 0)) := by
  have H1 := hid (scanSign_any b l w h0 (by omega) hd h)
  have HB := hid hbz
  have HZ0 := hid hz0
  have HZ1 := hid hz1
  have HE := hid hE
  have HD := hid hd
  clear hbz hz0 hz1 hE h hd
  go_enter Tryz.func206, Tryz.ntmps206
  go_wp2_with fail
  refine (H1.out).mono ?_
  rintro e w1 ⟨rfl, hrd, hk1⟩
  have HRD := hid hrd
  have hb1 := hk1.heap HB.out (by simpa using hne)
  have HB1 := hid hb1
  have HE1 := hid (hk1.cellOf HE.out (by simpa using hb14.symm))
  have z0 := (cell_of_heap hb1 oz).trans HZ0.out
  have z1 := (cell_of_heap hb1 (oz + 1)).trans HZ1.out
  have HK1 := hid hk1
  have hs1 := hk1.size
  clear hrd hk1 hb1 H1
  go_wp2_with fail
  refine (scan_any b n a l w1 hn h0 hl HD.out HRD.out HE1.out hb14).mono ?_
  rintro e w2 ⟨v', rfl, hv, hrd, hk2⟩
  obtain ⟨ao, nn, cc, rfl⟩ := hv.shape
  have hb2 := hk2.heap HB1.out (by simpa using hne)
  have z0 := (cell_of_heap hb2 oz).trans HZ0.out
  have z1 := (cell_of_heap hb2 (oz + 1)).trans HZ1.out
  have f0 := frozen_of_heap hb2 oz
  have f1 := frozen_of_heap hb2 (oz + 1)
  have HV := hid hv
  have h3 := hid (two_stores (Kept.refl [] w2) hb2 (oz + 1) oz (.slice ao nn cc) (.bool false))
  have HST := hid (hv.store hb2 ht h3.out.1)
  have HRD2 : Hid (Rd ((w2.setCell ⟨bz, oz + 1, none⟩ (.slice ao nn cc)).setCell ⟨bz, oz, none⟩ (.bool false)) b l n) := by
    obtain ⟨p, hp⟩ := hrd
    exact ⟨p, h3.out.1.heap hp (by simpa using hne.symm)⟩
  have HK2 := hid ((HK1.out.trans hk2 (ds := [bz, b]) (by simp) (by simp)).trans h3.out.1 (ds := [bz, b]) (by simp) (by simp))
  clear hb2 hv hrd hk2 HRD HB1
  go_wp2
  all_goals
    go_ret3
    exact ⟨rfl, _, HST.out.mono (by omega), HRD2.out, HK2.out, h3.out.2⟩

theorem setFromScanner_any (bz oz b n : Nat) (zneg : Bool) (cz : Array Value) (tz : TypeId) (a : Addr) (l : List UInt8) (w : World) (hn : n = l.length) (h0 : 0 < l.length) (hl : l.length ≤ 100000) (hd : IsDig l)
    (h : Rd w b l 0) (hE : w.cell? ⟨14, 0, none⟩ = some (.iface 166 (.pointer (some a)))) (hb14 : b ≠ 14) (hz14 : bz ≠ 14) (hne : bz ≠ b) (ht : tz ≠ 88)
    (hbz : w.heap[bz]? = some (.cells cz tz (0, 0))) (hz0 : cz[oz]? = some (.bool zneg)) (hz1 : cz[oz + 1]? = some (.slice none 0 0)) :
    Calls Tryz.prog 157 #[.pointer (some ⟨bz, oz, none⟩), .iface 233 (.pointer (some ⟨b, 0, none⟩)), .int .i64 10] w fun e w' =>
      e = .returned (.tuple #[.pointer (some ⟨bz, oz, none⟩), .bool true]) ∧ ∃ v', NumV w.heap.size w' v' (dval l) ∧ Kept [bz, b] w w' ∧
        w'.heap[bz]? = some (.cells ((cz.setIfInBounds (oz + 1) v').setIfInBounds oz (.bool false)) tz (0, 0)) := by
  have H1 := hid (intScan_any bz oz b n zneg cz tz a l w hn h0 hl hd h hE hb14 hne ht hbz hz0 hz1)
  have HE := hid hE
  have hbw : b < w.heap.size := by obtain ⟨p, hp⟩ := h; exact lt_of_heap hp
  have q1 : ∀ w, (binOp .neq 51 (.iface 166 (.pointer (some a))) (.iface 166 (.pointer (some a)))).run Tryz.prog w = .ok (.bool false) w := neq_err a
  clear hbz hz0 hz1 hE h hd
  go_enter Tryz.func157, Tryz.ntmps157
  go_wp2_with fail
  refine (H1.out).mono ?_
  rintro e w1 ⟨rfl, v', hv, hrd, hk, hb⟩
  have HV := hid hv
  have HRD := hid hrd
  have HK := hid hk
  have HB := hid hb
  have HE1 := hid (hk.cellOf HE.out (by simp; omega))
  clear hv hrd hk hb H1
  go_wp2_with fail
  refine (readByte_eof b n a l w1 hn (by omega) HRD.out HE1.out hb14).mono ?_
  rintro e w2 ⟨rfl, hrd, hk⟩
  have hE2 := hk.cellOf HE1.out (by simpa using hb14.symm)
  have HV2 := hid (HV.out.kept hk (by
    intro y hy h
    have := HV.out.own_ge h
    simp at hy
    omega))
  have HB2 := hid (hk.heap HB.out (by simpa using hne))
  have HK2 := hid (HK.out.trans hk (ds := [bz, b]) (by simp) (by simp))
  clear hrd hk
  go_wp2
  go_ret2
  exact ⟨rfl, v', HV2.out, HK2.out, HB2.out⟩

theorem intSetString_any (bz oz : Nat) (zneg : Bool) (cz : Array Value) (tz : TypeId) (a : Addr) (l : List UInt8) (w : World) (h0 : 0 < l.length) (hl : l.length ≤ 100000) (hd : IsDig l)
    (hE : w.cell? ⟨14, 0, none⟩ = some (.iface 166 (.pointer (some a)))) (hz14 : bz ≠ 14) (ht : tz ≠ 88)
    (hbz : w.heap[bz]? = some (.cells cz tz (0, 0))) (hz0 : cz[oz]? = some (.bool zneg)) (hz1 : cz[oz + 1]? = some (.slice none 0 0)) :
    Calls Tryz.prog 103 #[.pointer (some ⟨bz, oz, none⟩), .string (bstr l), .int .i64 10] w fun e w' =>
      e = .returned (.tuple #[.pointer (some ⟨bz, oz, none⟩), .bool true]) ∧ ∃ v', NumV w.heap.size w' v' (dval l) ∧ Kept [bz] w w' ∧
        w'.heap[bz]? = some (.cells ((cz.setIfInBounds (oz + 1) v').setIfInBounds oz (.bool false)) tz (0, 0)) := by
  have hlt := lt_of_heap hbz
  have h14 := World.block_lt_of_cell? w _ hE
  have HB := hid hbz
  have HE := hid hE
  have HD := hid hd
  have HZ0 := hid hz0
  have HZ1 := hid hz1
  clear hbz hE hd hz0 hz1
  go_enter Tryz.func103, Tryz.ntmps103
  go_wp2_with fail
  refine (newReader_any l w).mono ?_
  rintro e w1 ⟨rfl, hrd, hk1⟩
  have H1 := hid (setFromScanner_any bz oz w.heap.size l.length zneg cz tz a l w1 rfl h0 hl HD.out hrd (hk1.cellOf HE.out (by simp)) (by have : 14 < w.heap.size := h14; omega) hz14 (by omega) ht (hk1.heap HB.out (by simp)) HZ0.out HZ1.out)
  have HK1 := hid hk1
  have hs1 := hk1.size
  clear hrd hk1
  go_wp2_with fail
  refine (H1.out).mono ?_
  rintro e w2 ⟨rfl, v', hv, hk, hb⟩
  have HV := hid hv
  have HB2 := hid hb
  have HK2 := hid (HK1.out.trans hk (ds := [bz]) (by simp) (by intro y hy; simp at hy; rcases hy with h | h; left; simpa using h; right; omega))
  clear hv hk hb H1
  go_wp2
  go_ret2
  exact ⟨rfl, v', HV.out.mono hs1, HK2.out, HB2.out⟩

theorem bigSetString_any (bz oz : Nat) (zneg zm : Bool) (cz : Array Value) (tz : TypeId) (a : Addr) (l : List UInt8) (w : World) (h0 : 0 < l.length) (hl : l.length ≤ 100000) (hd : IsDig l)
    (hE : w.cell? ⟨14, 0, none⟩ = some (.iface 166 (.pointer (some a)))) (hz14 : bz ≠ 14) (ht : tz ≠ 88)
    (hbz : w.heap[bz]? = some (.cells cz tz (0, 0))) (hz0 : cz[oz]? = some (.bool zneg)) (hz1 : cz[oz + 1]? = some (.slice none 0 0)) (hz2 : cz[oz + 2]? = some (.bool zm)) :
    Calls Tryz.prog 71 #[.pointer (some ⟨bz, oz, none⟩), .string (bstr l), .int .i64 10] w fun e w' =>
      e = .returned (.tuple #[.pointer (some ⟨bz, oz, none⟩), .bool true]) ∧ ∃ v', NumV w.heap.size w' v' (dval l) ∧ Kept [bz] w w' ∧
        w'.heap[bz]? = some (.cells (((cz.setIfInBounds (oz + 2) (.bool false)).setIfInBounds (oz + 1) v').setIfInBounds oz (.bool false)) tz (0, 0)) := by
  have z2 := (cell_of_heap hbz (oz + 2)).trans hz2
  have fz2 := frozen_of_heap hbz (oz + 2)
  have hb1 := heap_setCell_self hbz (oz + 2) (.bool false)
  have C0 : (cz.setIfInBounds (oz + 2) (.bool false))[oz]? = some (.bool zneg) := get_set_ne (by omega) hz0
  have C1 : (cz.setIfInBounds (oz + 2) (.bool false))[oz + 1]? = some (.slice none 0 0) := get_set_ne (by omega) hz1
  have hk1 := (Kept.refl [bz] w).setCell ⟨bz, oz + 2, none⟩ (.bool false) (.inl (by simp))
  have H := hid (intSetString_any bz oz zneg _ tz a l _ h0 hl hd (hk1.cellOf hE (by simpa using hz14.symm)) hz14 ht hb1 C0 C1)
  have HK1 := hid hk1
  clear hbz hz0 hz1 hz2 hb1 C0 C1 hE hd hk1
  go_enter Tryz.func71, Tryz.ntmps71
  go_wp2_with fail
  refine (H.out).mono ?_
  rintro e w1 ⟨rfl, v', hv, hkp, hh⟩
  have HV := hid hv
  have HH := hid hh
  have HK := hid hkp
  clear hv hh hkp
  go_wp2
  go_ret2
  exact ⟨rfl, v', by simpa using HV.out, HK1.out.trans HK.out (by simp) (by simp), HH.out⟩
end

end Go.Proofs.YtofmickjbpkgbaaGreatDoor
