import Derived.Test.YtofmickjbpkgbaaGreatDoorAtof
namespace Go.Proofs.YtofmickjbpkgbaaGreatDoor
open Go.RowKit
set_option maxRecDepth 100000

/-- What the strconv road reads of the globals. -/
structure Glob (w : World) : Prop where
  g5 : w.cell? ⟨5, 0, none⟩ = some (.bool true)
  g6 : w.cell? ⟨6, 0, none⟩ = some (.int .u64 52)
  g10 : w.cell? ⟨10, 0, none⟩ = some (.int .i64 8)
  g110 : w.cell? ⟨11, 696, none⟩ = some (.int .u64 9223372036854775808)
  g111 : w.cell? ⟨11, 697, none⟩ = some (.int .u64 0)

theorem Glob.kept {w w' : World} (h : Glob w) (k : Kept [] w w') : Glob w' :=
  ⟨k.cellOf h.g5 (by simp), k.cellOf h.g6 (by simp), k.cellOf h.g10 (by simp), k.cellOf h.g110 (by simp), k.cellOf h.g111 (by simp)⟩

theorem pfPrefix_dec (neg : Bool) (V D : Nat) (h : Figs V D) (w : World) (hG : Glob w) :
    Calls Tryz.prog 47 #[.string (decStr neg V D), .int .i64 64] w fun e w' => e = .returned (.tuple #[.float .f64 (sbit neg + fbits V), .int .i64 (sgn neg + D : Nat), .nilIface]) ∧ Kept [] w w' := by
  have H := hid (atof64_dec neg V D h w hG.g5 hG.g6 hG.g110 hG.g111)
  generalize sbit neg + fbits V = F at *
  generalize sgn neg + D = L at *
  go_enter Tryz.func47, Tryz.ntmps47
  go_wp2_with fail
  refine (H.out).mono ?_
  rintro e w2 ⟨rfl, hk⟩
  have HK := hid hk
  clear hk
  go_wp2
  go_ret3
  exact ⟨rfl, HK.out⟩

theorem parseFloat_dec (neg : Bool) (V D : Nat) (h : Figs V D) (w : World) (hG : Glob w) :
    Calls Tryz.prog 36 #[.string (decStr neg V D), .int .i64 64] w fun e w' => e = .returned (.tuple #[.float .f64 (sbit neg + fbits V), .nilIface]) ∧ Kept [] w w' := by
  have H := hid (pfPrefix_dec neg V D h w hG)
  have hs := decStr_size neg V D
  generalize sbit neg + fbits V = F at *
  generalize sgn neg + D = L at *
  go_enter Tryz.func36, Tryz.ntmps36
  go_wp2_with fail
  refine (H.out).mono ?_
  rintro e w2 ⟨rfl, hk⟩
  have HK := hid hk
  clear hk
  go_wp2
  go_ret2
  exact ⟨rfl, HK.out⟩

theorem strconvParseFloat_dec (neg : Bool) (V D : Nat) (h : Figs V D) (w : World) (hG : Glob w) :
    Calls Tryz.prog 27 #[.string (decStr neg V D), .int .i64 64] w fun e w' => e = .returned (.tuple #[.float .f64 (sbit neg + fbits V), .nilIface]) ∧ Kept [] w w' := by
  have H := hid (parseFloat_dec neg V D h w hG)
  generalize sbit neg + fbits V = F at *
  go_enter Tryz.func27, Tryz.ntmps27
  go_wp2_with fail
  refine (H.out).mono ?_
  rintro e w2 ⟨rfl, hk⟩
  have HK := hid hk
  clear hk
  go_wp2
  go_ret2
  exact ⟨rfl, HK.out⟩

theorem decFloat64_any (N : Nat) (DV : DivOK N) (b : Nat) (neg : Bool) (B' n : Nat) (va : Value) (x : Nat → Nat) (w : World) (hn : n ≤ N) (h3 : n ≤ 3)
    (hb : w.heap[b]? = some (.cells #[.int .i8 0, .bool neg, .int .i32 0, .bool false, va, .bool false] 69 (0, 0))) (hva : NatV B' w va n x) (hx : ∀ j, j < n → x j < 18446744073709551616) (hnz : n = 0 ∨ x (n - 1) ≠ 0)
    (hG : Glob w) (hV : val x n < 9007199254740992) :
    Calls Tryz.prog 17 #[.pointer (some ⟨b, 0, none⟩)] w fun e w' => e = .returned (.tuple #[.float .f64 (sbit neg + fbits (val x n)), .nilIface]) ∧ Kept [] w w' := by
  have H := hid (decString_any N DV b neg B' n va x w hn h3 hb hva hx hnz hG.g10)
  have HG := hid hG
  clear hG hb hva hx hnz
  go_enter Tryz.func17, Tryz.ntmps17
  go_wp2_with fail
  refine (H.out).mono ?_
  rintro e w2 ⟨D, rfl, hD1, hD2, hD3, hD4, hk⟩
  have H2 := hid (strconvParseFloat_dec neg (val x n) D ⟨hV, hD1, hD3, hD4⟩ w2 (HG.out.kept hk))
  have HK := hid hk
  clear hk hD3 hD4 hV
  go_wp2_with fail
  refine (H2.out).mono ?_
  rintro e w3 ⟨rfl, hk3⟩
  have HK3 := hid hk3
  clear hk3
  go_wp2
  go_ret2
  exact ⟨rfl, HK.out.then HK3.out⟩

theorem val_norm (x : Nat → Nat) (m : Nat) : ∀ n, m ≤ n → (∀ j, m ≤ j → j < n → x j = 0) → val x n = val x m
  | 0, h, _ => by
    obtain rfl : m = 0 := by omega
    rfl
  | n + 1, h, hz => by
    by_cases e : m = n + 1
    · rw [e]
    · have h1 := val_norm x m n (by omega) (fun j h1 h2 => hz j h1 (by omega))
      show val x n + x n * 2 ^ (64 * n) = _
      rw [hz n (by omega) (by omega), Nat.zero_mul, Nat.add_zero, h1]

theorem implFloat64_any (neg : Bool) (ao : Option Addr) (n c : Nat) (x : Nat → Nat) (w : World) (hn : n ≤ 1) (hc : n ≤ c) (hcc : c ≤ 9223372036854775807) (hx : ∀ j, j < n → x j < 9007199254740992)
    (hcell : n = 0 ∨ ∃ g o, ao = some ⟨g, o, none⟩ ∧ g < w.heap.size ∧ ∀ j, j < n → w.cell? ⟨g, o + j, none⟩ = some (.int .u64 (x j : Nat))) (hG : Glob w) :
    Calls Tryz.prog 7 #[.agg #[.int .i64 0, .bool neg, .slice ao n c, .int .i64 0]] w fun e w' => e = .returned (.tuple #[.int .u64 (sbit neg + fbits (val x n) : Nat), .bool true]) ∧ Kept [] w w' := by
  have HC := hid hcell
  have HG := hid hG
  have HX := hid hx
  clear hcell hG hx
  have hff := fun (n : Nat) (w : World) => run_f64bits n w
  go_enter Tryz.func7, Tryz.ntmps7
  go_wp2_with fail
  have hkA := (Kept.refl [] w).alloc (Obj.cells #[Value.int IntKind.i64 0, Value.bool neg, Value.slice ao n c, Value.int IntKind.i64 0] 30)
  have hsz : (w.alloc (Obj.cells #[Value.int IntKind.i64 0, Value.bool neg, Value.slice ao n c, Value.int IntKind.i64 0] 30)).heap.size = w.heap.size + 1 := by simp
  generalize (w.alloc (Obj.cells #[Value.int IntKind.i64 0, Value.bool neg, Value.slice ao n c, Value.int IntKind.i64 0] 30)) = W2 at *
  refine (made_finite neg ao n c 0 x W2 (by omega) hc hcc (by omega) ?_).mono ?_
  · rcases HC.out with h | ⟨g, o, h1, h2, h3⟩
    · exact .inl h
    · exact .inr ⟨g, o, h1, by omega, fun j hj => hkA.cellOf (h3 j hj) (by simp)⟩
  rintro e w3 ⟨b, v', m, rfl, hm, hbn, hb, hv, hk⟩
  have hk3 := hkA.then hk
  have hmn : m ≤ n := hm.1
  have hval : val x n = val x m := val_norm x m n hm.1 (fun j h1 h2 => hm.2.2 j h1 h2)
  have hxm : ∀ j, j < m → x j < 18446744073709551616 := fun j hj => by have := HX.out j (by omega); omega
  have hV : val x m < 9007199254740992 := by
    rcases (by omega : m = 0 ∨ m = 1) with rfl | rfl
    · exact by show 0 < _; omega
    · have := HX.out 0 (by omega)
      show val x 0 + x 0 * 2 ^ (64 * 0) < _
      simp [val]
      omega
  have H := hid (decFloat64_any 1 divOK_one b neg W2.heap.size m v' x w3 (by omega) (by omega) hb hv hxm hm.2.1 (HG.out.kept hk3) hV)
  have HK3 := hid hk3
  have HVAL := hid hval
  clear hkA hsz hm hb hv hk hk3 hval hxm hV
  go_wp2_with fail
  refine (H.out).mono ?_
  rintro e w4 ⟨rfl, hk4⟩
  have HK4 := hid hk4
  clear hk4
  go_wp2
  go_ret2
  rw [HVAL.out]
  exact ⟨rfl, HK3.out.then HK4.out⟩
end Go.Proofs.YtofmickjbpkgbaaGreatDoor
