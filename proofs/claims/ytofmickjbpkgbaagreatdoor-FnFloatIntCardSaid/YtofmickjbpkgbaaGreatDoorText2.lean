import Derived.Test.YtofmickjbpkgbaaGreatDoorText
import Derived.Laws.IdiomStrings
namespace Go.Proofs.YtofmickjbpkgbaaGreatDoor
open Go.RowKit
set_option maxRecDepth 100000

/-- The string of n bytes c 0, c 1, .. -/
def strC (n : Nat) (c : Nat → Nat) : ByteArray := ⟨((List.range n).map fun j => UInt8.ofNat (c j)).toArray⟩

theorem strC_size (n : Nat) (c : Nat → Nat) : (strC n c).size = n := by
  show (((List.range n).map fun j => UInt8.ofNat (c j)).toArray).size = n
  simp

theorem strC_get (n : Nat) (c : Nat → Nat) (j : Nat) (h : j < n) : (strC n c).data[j]? = some (UInt8.ofNat (c j)) := by
  show (((List.range n).map fun j => UInt8.ofNat (c j)).toArray)[j]? = _
  simp [h]

theorem run_convert_sv {T : TypeId → Prop} {B n : Nat} {w : World} {v : Value} {f : Nat → Value} (c : Nat → Nat) (h : SV T B w v n f) (hn : 0 < n) (hc : ∀ j, j < n → c j < 256 ∧ f j = .int .u8 (c j : Nat)) :
    (convert 40 9 v).run Tryz.prog w = .ok (.string (strC n c)) w := by
  rcases h with ⟨_, rfl⟩ | ⟨g, cap, t, rfl, h2, h3, h4, h5, h6⟩
  · omega
  · have hl : ((List.range n).map fun j => UInt8.ofNat (c j)).length = n := by simp
    have := run_convert_bytes_back (P := Tryz.prog) w 40 9 5 ⟨g, 0, none⟩ cap ((List.range n).map fun j => UInt8.ofNat (c j)) Tryz.underlying40 Tryz.underlying5 Tryz.underlying9 (fun j hj => by
      have hj' : j < n := by simpa using hj
      rw [Addr.add_lit, Nat.zero_add, h6.cell hj', (hc j hj').2]
      have h256 := (hc j hj').1
      simp
      omega)
    rw [hl] at this
    exact this

/-- The bytes of a decimal whole number's text. -/
def decC (neg : Bool) (V D j : Nat) : Nat := if neg then (if j = 0 then 45 else 48 + fig V (D - j)) else 48 + fig V (D - 1 - j)
def sgn (neg : Bool) : Nat := if neg then 1 else 0
def decStr (neg : Bool) (V D : Nat) : ByteArray := strC (sgn neg + D) (decC neg V D)

theorem allocArr0 (w : World) (f : Nat → Value) : SV (fun _ => True) w.heap.size (w.alloc (.cells (Array.replicate 16 (.int .u8 0)) 84)) (.slice (some ⟨w.heap.size, 0, none⟩) 0 16) 0 f := allocArr w f

set_option maxHeartbeats 4000000 in
theorem decText_any (N : Nat) (DV : DivOK N) (b : Nat) (neg : Bool) (B' n : Nat) (va : Value) (x : Nat → Nat) (w : World) (hn : n ≤ N) (h3 : n ≤ 3)
    (hb : w.heap[b]? = some (.cells #[.int .i8 0, .bool neg, .int .i32 0, .bool false, va, .bool false] 69 (0, 0))) (hva : NatV B' w va n x) (hx : ∀ j, j < n → x j < 18446744073709551616) (hnz : n = 0 ∨ x (n - 1) ≠ 0)
    (hG : w.cell? ⟨10, 0, none⟩ = some (.int .i64 8)) :
    Calls Tryz.prog 24 #[.pointer (some ⟨b, 0, none⟩), .int .u8 71] w fun e w' => ∃ D, e = .returned (.string (decStr neg (val x n) D)) ∧ 1 ≤ D ∧ D ≤ 1000 ∧ val x n < 10 ^ D ∧ (D = 1 ∨ 10 ^ (D - 1) ≤ val x n) ∧ Kept [] w w' := by
  have hlt := lt_of_heap hb
  have hl10 := World.block_lt_of_cell? w _ hG
  have HB := hid hb
  have HV := hid hva
  have HX := hid hx
  have HNZ := hid hnz
  have HG := hid hG
  clear hb hva hx hnz hG
  go_enter Tryz.func24, Tryz.ntmps24
  go_wp2_with fail
  change Calls _ _ _ (w.alloc (.cells (Array.replicate 16 (.int .u8 0)) 84)) _
  have hkA := (Kept.refl [] w).alloc (.cells (Array.replicate 16 (.int .u8 0)) 84)
  have hA := allocArr w (fun _ => .nilIface)
  have hzA : (w.alloc (.cells (Array.replicate 16 (.int .u8 0)) 84)).heap.size = w.heap.size + 1 := by simp
  generalize (w.alloc (.cells (Array.replicate 16 (.int .u8 0)) 84)) = W2 at *
  have hb2 := hid (hkA.heap HB.out (by simp))
  have hv2 := hid (HV.out.kept hkA (by simp))
  have hg2 := hid (hkA.cellOf HG.out (by simp))
  have HA := hid hA
  have HKA := hid hkA
  have hne : (Value.slice (some ⟨w.heap.size, 0, none⟩) 0 16).ownBlock ≠ some b := by simp [Value.ownBlock]; omega
  cases neg
  · refine (decAppend_pos N DV b B' n va x w.heap.size 0 _ _ W2 hn h3 hb2.out hv2.out HX.out HNZ.out HA.out hne (by omega) (by omega) hg2.out).mono ?_
    rintro e w3 ⟨D, v3, rfl, hD1, hD2, hD3, hD4, hv3, hk3, ho3⟩
    have hcv := run_convert_sv (decC false (val x n) D) hv3 (by omega) (fun j hj => ⟨by have := fig_lt (val x n) (D - 1 - j); simp [decC]; omega, by simp [appF, digF, decC]⟩)
    have HK3 := hid (HKA.out.trans hk3 (ds := []) (by simp) (by simp [Value.ownBlock]))
    have HD3 := hid hD3
    have HD4 := hid hD4
    have hcv' : (convert 40 9 v3).run Tryz.prog w3 = .ok (.string (decStr false (val x n) D)) w3 := hcv
    clear hcv hv3 hk3 ho3 hD3 hD4 HA hA hkA hb2 hv2 hg2 HB HV HG HX HNZ
    go_wp2
    go_ret
    exact ⟨D, rfl, hD1, hD2, HD3.out, HD4.out, HK3.out⟩
  · refine (decAppend_neg N DV b B' n va x w.heap.size 0 _ _ W2 hn h3 hb2.out hv2.out HX.out HNZ.out ?_ ?_ HA.out hne (by omega) (by omega) hg2.out).mono ?_
    · intro y hy
      simp [Value.ownBlock] at hy
      subst hy
      exact .inr fun ao c e a ha => Nat.ne_of_lt (HV.out.own_lt e ha)
    · simp [Value.ownBlock]; omega
    rintro e w3 ⟨D, v3, rfl, hD1, hD2, hD3, hD4, hv3, hk3, ho3⟩
    have hcv := run_convert_sv (decC true (val x n) D) hv3 (by omega) (fun j hj => by
      by_cases hj0 : j = 0
      · subst hj0
        exact ⟨by simp [decC], by simp [appF, decC]⟩
      · have := fig_lt (val x n) (D - j)
        refine ⟨by simp [decC, hj0]; omega, ?_⟩
        have h1 : ¬ j < 0 + 1 := by omega
        simp only [appF, if_neg h1, digF, decC, if_neg hj0, if_true]
        rw [show D - 1 - (j - (0 + 1)) = D - j by omega])
    have HK3 := hid (HKA.out.trans hk3 (ds := []) (by simp) (by simp [Value.ownBlock]))
    have HD3 := hid hD3
    have HD4 := hid hD4
    have hcv' : (convert 40 9 v3).run Tryz.prog w3 = .ok (.string (decStr true (val x n) D)) w3 := hcv
    clear hcv hv3 hk3 ho3 hD3 hD4 HA hA hkA hb2 hv2 hg2 HB HV HG HX HNZ
    go_wp2
    go_ret
    exact ⟨D, rfl, hD1, hD2, HD3.out, HD4.out, HK3.out⟩

theorem decString_any (N : Nat) (DV : DivOK N) (b : Nat) (neg : Bool) (B' n : Nat) (va : Value) (x : Nat → Nat) (w : World) (hn : n ≤ N) (h3 : n ≤ 3)
    (hb : w.heap[b]? = some (.cells #[.int .i8 0, .bool neg, .int .i32 0, .bool false, va, .bool false] 69 (0, 0))) (hva : NatV B' w va n x) (hx : ∀ j, j < n → x j < 18446744073709551616) (hnz : n = 0 ∨ x (n - 1) ≠ 0)
    (hG : w.cell? ⟨10, 0, none⟩ = some (.int .i64 8)) :
    Calls Tryz.prog 28 #[.pointer (some ⟨b, 0, none⟩)] w fun e w' => ∃ D, e = .returned (.string (decStr neg (val x n) D)) ∧ 1 ≤ D ∧ D ≤ 1000 ∧ val x n < 10 ^ D ∧ (D = 1 ∨ 10 ^ (D - 1) ≤ val x n) ∧ Kept [] w w' := by
  have H := hid (decText_any N DV b neg B' n va x w hn h3 hb hva hx hnz hG)
  clear hb hva hx hnz hG
  go_enter Tryz.func28, Tryz.ntmps28
  go_wp2_with fail
  refine (H.out).mono ?_
  rintro e w1 ⟨D, rfl, h1, h2, h3', h4, h5⟩
  have H3 := hid h3'
  have H4 := hid h4
  have H5 := hid h5
  clear h3' h4 h5
  go_wp2
  go_ret
  exact ⟨D, rfl, h1, h2, H3.out, H4.out, H5.out⟩
end Go.Proofs.YtofmickjbpkgbaaGreatDoor
