import Derived.Test.YtofmickjbpkgbaaGreatDoorMd
import Derived.Test.YtofmickjbpkgbaaGreatDoorMshelf2
import Derived.Lib.ItoaWalk
import Derived.Lib.ItoaMem
import Derived.Lib.AppendIntMem
import Derived.BigCall
import Derived.BigGuard
set_option maxRecDepth 100000
namespace Go.Proofs.YtofmickjbpkgbaaGreatDoor
section
open Go.RowKit

set_option maxHeartbeats 4000000 in
/-- fmtF at exponent 0. -/
theorem fmtF_nil (b : Nat) (cur : Array Value) (t : TypeId) (B B2 : Nat) (v d : Value) (l ds : List UInt8) (w : World)
    (hb : w.heap[b]? = some (.cells cur t (0, 0))) (c2 : cur[2]? = some (.int .i32 0)) (hvb : v.ownBlock ≠ some b)
    (hs : BS B w v l) (hd : BS B2 w d ds) (hB : B ≤ w.heap.size) (hm : l.length ≤ 1000) (hD : ds.length ≤ 1000) :
    Calls Tryz.prog 43 #[v, .pointer (some ⟨b, 0, none⟩), d] w (AddL B w v l ds) := by
  obtain ⟨i5, hi5, hz50, hz51, hz52⟩ := info_parts Tryz.info5
  have d2 : w.cell? ⟨b, 2, none⟩ = some (.int .i32 0) := (cell_of_heap hb 2).trans c2
  have HS := hid hs
  have HSR := hid (hd.src (P := Tryz.prog) 40 5 Tryz.underlying40)
  have HNE := hid (show b ∉ v.ownBlock.toList by simpa using hvb)
  clear hb c2 hs hd
  go_enter Tryz.func43, Tryz.ntmps43
  go_wp2_with (at_builtin; refine wpList_append_bs _ rfl (.tmp 62) (.tmp 63) 40 40 rfl 5 i5 (.int .u8 0) Tryz.underlying40 hi5 hz50 hz51 hz52 rfl B _ _ l ds rfl HS.out rfl HSR.out (by omega) hB ?_)
  intro v1 w1 hv1 hk1 ho1
  have HV1 := hid hv1
  have HK1 := hid hk1
  have d2' := hk1.cellOf d2 HNE.out
  clear hv1 hk1
  go_wp2
  refine wp_loop_rounds 1 ?_
  rw [rounds_succ]
  go_wp2
  go_ret
  exact ⟨v1, rfl, HV1.out, HK1.out, ho1.out⟩

set_option maxHeartbeats 4000000 in
/-- fmtF at an exponent below 0 that leaves figures ahead of the point. -/
theorem fmtF_mid (b : Nat) (cur : Array Value) (t : TypeId) (B B2 m : Nat) (v d : Value) (l ds : List UInt8) (w : World)
    (hb : w.heap[b]? = some (.cells cur t (0, 0))) (c2 : cur[2]? = some (.int .i32 (-(m : Int)))) (hm0 : 1 ≤ m) (hmD : m < ds.length)
    (hs : BS B w v l) (hd : BS B2 w d ds) (hvd : v.ownBlock = none ∨ v.ownBlock ≠ d.ownBlock) (hB : B ≤ w.heap.size) (hm : l.length ≤ 1000) (hD : ds.length ≤ 1000) :
    Calls Tryz.prog 43 #[v, .pointer (some ⟨b, 0, none⟩), d] w (AddL B w v l (ds.take (ds.length - m) ++ 46 :: ds.drop (ds.length - m))) := by
  obtain ⟨i5, hi5, hz50, hz51, hz52⟩ := info_parts Tryz.info5
  have d2 : w.cell? ⟨b, 2, none⟩ = some (.int .i32 (-(m : Int))) := (cell_of_heap hb 2).trans c2
  have HS := hid hs
  obtain ⟨g, c, t', rfl, hg1, hg2, hg3, hR⟩ := hd.row (fun h => by subst h; simp at hmD)
  have HR := hid hR
  have hgl := hR.lt
  have HVG : Hid (v.ownBlock ≠ some g) := by
    rcases hvd with h | h
    · intro h2; rw [h] at h2; cases h2
    · exact h
  obtain ⟨k, hk⟩ : ∃ k, ds.length = m + k := ⟨ds.length - m, by omega⟩
  have HK := hid hk
  rw [hk] at hmD hD hg2
  rw [show ds.length - m = k by omega, hk]
  have e1 : -((m : Int) - ((m + k : Nat) : Int)) = (k : Int) := by omega
  have e2 : ((m : Int) - ((m + k : Nat) : Int)) < 0 := by omega
  have hs1 := hid (HR.out.srcB (P := Tryz.prog) 40 5 Tryz.underlying40 0 k c (by omega))
  obtain ⟨D, hDe⟩ : ∃ D, D = m + k := ⟨_, rfl⟩
  rw [← hDe] at e1 e2 hg2 hD hmD ⊢
  have HDE := hid hDe
  clear hb c2 hs hd hR hvd hDe hk
  go_enter Tryz.func43, Tryz.ntmps43
  go_wp2_with (at_builtin; refine wpList_append_bs _ rfl (.tmp 44) (.tmp 47) 40 40 rfl 5 i5 (.int .u8 0) Tryz.underlying40 hi5 hz50 hz51 hz52 rfl B _ _ l ((ds.drop 0).take k) rfl HS.out rfl hs1.out (by simp; omega) hB ?_)
  intro v1 w1 hv1 hk1 ho1
  have HV1 := hid hv1
  have HK1 := hid hk1
  have HR1 := hid (HR.out.kept hk1 (by simpa using HVG.out))
  have hsz1 := hk1.size
  clear hv1 hk1
  go_wp2_with (at_builtin; refine wpList_append_bs _ rfl (.tmp 49) (.tmp 50) 40 40 rfl 5 i5 (.int .u8 0) Tryz.underlying40 hi5 hz50 hz51 hz52 rfl B _ _ _ [46] rfl (HV1.out.alloc _) rfl (Src.oneB _ 40 5 5 46 46 rfl Tryz.underlying40) (by simp; omega) (by simp; omega) ?_)
  intro v2 w2 hv2 hk2 ho2
  have HV2 := hid hv2
  have hkA := ((Kept.refl v1.ownBlock.toList w1).alloc (.cells #[.int .u8 46] 5)).trans hk2 (fun y hy => .inl hy) (fun y hy => .inl hy)
  have HO2 : Hid (∀ k, v2.ownBlock = some k → v1.ownBlock = some k ∨ w1.heap.size ≤ k) := fun k hk => by
    rcases ho2.out k hk with h | h
    · exact .inl h
    · right; omega
  have HA2 := hid (AddL.next HK1.out ho1.out hkA HO2.out)
  have HR2 := hid (HR1.out.kept hkA (by
    simp
    intro h
    rcases ho1.out g h with h1 | h1
    · exact HVG.out h1
    · omega))
  have hsz2 := hkA.size
  clear hv2 hk2 hkA ho2
  have hlen3 : ((ds.drop k).take (D - k)).length = D - k := by have := HK.out; have := HDE.out; simp; omega
  have hall : (ds.drop k).take (D - k) = ds.drop k := List.take_of_length_le (by have := HK.out; have := HDE.out; simp; omega)
  have hs3 := hid (HR2.out.srcB (P := Tryz.prog) 40 5 Tryz.underlying40 k (D - k) (c - k) (by have := HK.out; have := HDE.out; omega))
  rw [hall] at hs3 hlen3
  go_wp2_with (at_builtin; refine wpList_append_bs _ rfl (.tmp 52) (.tmp 55) 40 40 rfl 5 i5 (.int .u8 0) Tryz.underlying40 hi5 hz50 hz51 hz52 rfl B _ _ _ (ds.drop k) rfl HV2.out rfl hs3.out (by have := HK.out; have := HDE.out; simp; omega) (by omega) ?_)
  intro v3 w3 hv3 hk3 ho3
  have HV3 := hid hv3
  have HA3 := hid (AddL.next HA2.out.1 HA2.out.2 hk3 ho3.out)
  clear hv3 hk3 ho3
  go_wp2
  go_ret
  exact ⟨v3, rfl, by simpa using HV3.out, HA3.out.1, HA3.out.2⟩

set_option maxHeartbeats 4000000 in
/-- fmtF at an exponent below 0 that leaves no figure ahead of the point. -/
theorem fmtF_left (b : Nat) (cur : Array Value) (t : TypeId) (B B2 z : Nat) (v d : Value) (l ds : List UInt8) (w : World)
    (hb : w.heap[b]? = some (.cells cur t (0, 0))) (c2 : cur[2]? = some (.int .i32 (-((z + ds.length : Nat) : Int)))) (hD0 : 1 ≤ ds.length)
    (hs : BS B w v l) (hd : BS B2 w d ds) (hvd : v.ownBlock = none ∨ v.ownBlock ≠ d.ownBlock) (hB : B ≤ w.heap.size) (hm : l.length ≤ 1000) (hz : z ≤ 1000) (hD : ds.length ≤ 1000) :
    Calls Tryz.prog 43 #[v, .pointer (some ⟨b, 0, none⟩), d] w (AddL B w v l (48 :: 46 :: (List.replicate z 48 ++ ds))) := by
  obtain ⟨i5, hi5, hz50, hz51, hz52⟩ := info_parts Tryz.info5
  obtain ⟨e, he⟩ : ∃ e, e = z + ds.length := ⟨_, rfl⟩
  have d2 : w.cell? ⟨b, 2, none⟩ = some (.int .i32 (-(e : Int))) := by rw [he]; exact (cell_of_heap hb 2).trans c2
  have HS := hid hs
  obtain ⟨g, c, t', rfl, hg1, hg2, hg3, hR⟩ := hd.row (fun h => by subst h; simp at hD0)
  have HR := hid hR
  have hgl := hR.lt
  have HVG : Hid (v.ownBlock ≠ some g) := by
    rcases hvd with h | h
    · intro h2; rw [h] at h2; cases h2
    · exact h
  obtain ⟨D, hDe⟩ : ∃ D, D = ds.length := ⟨_, rfl⟩
  rw [← hDe] at he hD0 hg2 hD ⊢
  have e1 : (e : Int) - (D : Int) = (z : Int) := by omega
  have e0 : 1 ≤ e := by omega
  have HDE := hid hDe
  have HE := hid he
  clear hb c2 hs hd hR hvd hDe he
  go_enter Tryz.func43, Tryz.ntmps43
  go_wp2_with (at_builtin; refine wpList_append_bs _ rfl (.tmp 27) _ 40 9 rfl 5 i5 (.int .u8 0) Tryz.underlying40 hi5 hz50 hz51 hz52 rfl B _ _ l [48, 46] rfl HS.out rfl (Src.strB _ 9 [48, 46] Tryz.underlying9) (by simp; omega) hB ?_)
  intro v1 w1 hv1 hk1 ho1
  have HV1 := hid hv1
  have HK1 := hid hk1
  clear hv1 hk1
  go_wp2
  go_loopw [0, 8] (fun v' i wr => ∃ k : Nat, i = .int .i64 k ∧ k ≤ z ∧ Hid (BS B wr v' (l ++ ([48, 46] ++ List.replicate k 48))) ∧ Hid (Kept v.ownBlock.toList w wr) ∧ Hid (∀ k, v'.ownBlock = some k → v.ownBlock = some k ∨ w.heap.size ≤ k)) (fun _ i _ => z - (intOf i).toNat)
  case atStart => exact ⟨0, rfl, Nat.zero_le _, by simpa using HV1, HK1, ho1⟩
  case round =>
    obtain ⟨k, rfl, hk, HV2, HK2, HO2⟩ := hrel
    have hsz := HK2.out.size
    by_cases hkz : k < z
    · go_wp2_with (at_builtin; refine wpList_append_bs _ rfl (.tmp 34) (.tmp 35) 40 40 rfl 5 i5 (.int .u8 0) Tryz.underlying40 hi5 hz50 hz51 hz52 rfl B _ _ _ [48] rfl (HV2.out.alloc _) rfl (Src.oneB _ 40 5 5 48 48 rfl Tryz.underlying40) (by simp; omega) (by simp; omega) ?_)
      intro v3 w3 hv3 hk3 ho3
      have hkA := ((Kept.refl u0.ownBlock.toList wr).alloc (.cells #[.int .u8 48] 5)).trans hk3 (fun y hy => .inl hy) (fun y hy => .inl hy)
      have hA := AddL.next HK2.out HO2.out hkA (fun k hk => by
        rcases ho3.out k hk with h | h
        · exact .inl h
        · right; (try simp at h); omega)
      have HV3 := hid hv3
      have HA := hid hA
      clear hv3 hk3 ho3 hkA hA
      go_wp2
      go_roundw
      case rel => exact ⟨k + 1, by go_num, by omega, by have := HV3.out; unfold Hid; rw [List.replicate_succ']; simpa using this, HA.out.1, HA.out.2⟩
      case measure => simp [intOf]; omega
    · obtain rfl : k = z := by omega
      have HR2 := hid (HR.out.kept HK2.out (by simpa using HVG.out))
      have hs3 := hid (HR2.out.srcB (P := Tryz.prog) 40 5 Tryz.underlying40 0 D c (by have := HDE.out; omega))
      have hall : (ds.drop 0).take D = ds := by rw [List.drop_zero]; exact List.take_of_length_le (by have := HDE.out; omega)
      rw [hall] at hs3
      go_wp2_with (at_builtin; refine wpList_append_bs _ rfl (.tmp 37) (.tmp 38) 40 40 rfl 5 i5 (.int .u8 0) Tryz.underlying40 hi5 hz50 hz51 hz52 rfl B _ _ _ ds rfl HV2.out rfl hs3.out (by have := HDE.out; simp; omega) (by omega) ?_)
      intro v3 w3 hv3 hk3 ho3
      have HV3 := hid hv3
      have HA := hid (AddL.next HK2.out HO2.out hk3 ho3.out)
      clear hv3 hk3 ho3
      go_wp2
      go_ret
      exact ⟨v3, rfl, by simpa using HV3.out, HA.out.1, HA.out.2⟩
end

section
open Go.RowKit Go.Sort

theorem decDigits_len (u : Nat) (h : u ≤ 200) : (Lib.decDigits u).length ≤ 3 := (dec_at u h).2.2.1

set_option maxHeartbeats 4000000 in
theorem appendUint_small (B u : Nat) (v : Value) (l : List UInt8) (w : World) (hu : u < 100) (hs : BS B w v l) (hB : B ≤ w.heap.size) (hm : l.length ≤ 10000) :
    Calls Tryz.prog 129 #[v, .int .u64 u, .int .i64 10] w (AddL B w v l (Lib.decDigits u)) := by
  obtain ⟨i5, hi5, hz50, hz51, hz52⟩ := info_parts Tryz.info5
  have HS := hid hs
  have hlen := decDigits_len u (by omega)
  have H := hid (Tryz.internal_strconv_small u hu w)
  clear hs
  go_enter Tryz.func129, Tryz.ntmps129
  go_wp2_with fail
  refine (H.out).mono ?_
  rintro e w1 ⟨rfl, rfl⟩
  go_wp2_with (at_builtin; refine wpList_append_bs _ rfl (.tmp 13) (.tmp 16) 40 9 rfl 5 i5 (.int .u8 0) Tryz.underlying40 hi5 hz50 hz51 hz52 rfl B _ _ l (Lib.decDigits u) rfl HS.out rfl (Src.strB _ 9 (Lib.decDigits u) Tryz.underlying9) (by omega) hB ?_)
  intro v3 w3 hv3 hk3 ho3
  have HV3 := hid hv3
  clear hv3
  go_wp2
  go_ret
  exact ⟨v3, rfl, HV3.out, hk3, ho3.out⟩

set_option maxHeartbeats 12800000 in
theorem appendUint_big (B u : Nat) (v : Value) (l : List UInt8) (w : World) (hu : 100 ≤ u) (hu2 : u ≤ 200) (hs : BS B w v l) (hB : B ≤ w.heap.size) (hm : l.length ≤ 10000)
    (htab : Lib.TabIs Tryz.prog w "internal/strconv.uint64pow10" .u64 Lib.pow10Tab) :
    Calls Tryz.prog 129 #[v, .int .u64 u, .int .i64 10] w (AddL B w v l (Lib.decDigits u)) := by
  obtain ⟨i5, hi5, hz50, hz51, hz52⟩ := info_parts Tryz.info5
  have hu1 : 1 ≤ u := by omega
  have hnd20 : Lib.nDigits u ≤ 3 := by have := decDigits_len u hu2; rwa [Lib.decDigits_length] at this
  have hal : Tryz.prog.arrayLen 258 = 24 := by kernel_rfl
  have hsl : ∀ W, (Instr.sliceAt 258 (.pointer (some ⟨w.heap.size, 0, none⟩)) none (some (.int .i64 (Lib.nDigits u : Int))) none).run Tryz.prog W = .ok (.slice (some ⟨w.heap.size, 0, none⟩) (Lib.nDigits u) 24) W := fun W => by
    rw [run_sliceAt_array_h W 258 ⟨w.heap.size, 0, none⟩ (by kernel_rfl) .i64 (Lib.nDigits u : Int) (by omega) (by rw [hal]; omega)]
    go_simp
  have hH0 := Lib.holds_zero0 w 258 (Lib.nDigits u) (by omega)
  have hfmt := Tryz.internal_strconv_formatBase10 w.heap.size 0 24 u (Array.replicate (Lib.nDigits u) 0) (w.alloc (.cells Lib.zeros24 258)) hH0 (by rw [Array.size_replicate]; exact Lib.lt_pow_nDigits u) (by omega) (by rw [Array.size_replicate]; omega)
  rw [Array.size_replicate] at hfmt
  have HH0 := hid hH0
  have HS := hid hs
  have HF := hid hfmt
  have HN := hid (Tryz.internal_strconv_numDigits u hu1 (by omega) _ (Lib.tabIs_alloc htab (.cells Lib.zeros24 258)))
  have iu : (100 : Int) ≤ (u : Int) := by omega
  clear hH0 hal hs hfmt htab
  go_enter Tryz.func129, Tryz.ntmps129
  go_wp2_with fail
  refine (HN.out).mono ?_
  rintro e w1 ⟨rfl, rfl⟩
  go_wp2_with fail
  refine (HF.out).mono ?_
  rintro e w1 ⟨rfl, k, v', dk, rfl, hF⟩
  have hcells : ∀ j u', (Lib.byteCells (Lib.decDigits u))[j]? = some u' → ((putRow (fun (b : UInt8) => Value.int .u8 (b.toNat : Int)) (w.alloc (.cells Lib.zeros24 258)) w.heap.size 0 dk).drewN k).cell? ((⟨w.heap.size, 0, none⟩ : Addr).add j) = some u' := by
    intro j u' hj
    have hjl : j < (Lib.decDigits u).length := by
      have h5 := (List.getElem?_eq_some_iff.1 hj).1
      rwa [Lib.byteCells_length] at h5
    have e5 : (Lib.byteCells (Lib.decDigits u))[j]? = some (Value.int .u8 ((Lib.decDigits u)[j].toNat : Int)) := by simp [Lib.byteCells, hjl]
    rw [e5] at hj
    cases hj
    rw [Lib.row_is_numeral hF j hjl, Lib.add_plain, World.cell?_drewN]
    exact cell?_putRow (fun (b : UInt8) => Value.int .u8 (b.toNat : Int)) _ w.heap.size 0 _ dk HH0.out (by rw [hF.size, Array.size_replicate]) j (by rw [hF.size]; rw [Lib.decDigits_length] at hjl; exact hjl)
  obtain ⟨os, eo⟩ := Lib.fin_at w (.cells Lib.zeros24 258) dk k 0
  have hnx2 : Below w.heap.size w ((putRow (fun (b : UInt8) => Value.int .u8 (b.toNat : Int)) (w.alloc (.cells Lib.zeros24 258)) w.heap.size 0 dk).drewN k) := by rw [eo]; exact Lib.below_grow w.heap.size w (Nat.le_refl _) k os
  generalize (putRow (fun (b : UInt8) => Value.int .u8 (b.toNat : Int)) (w.alloc (.cells Lib.zeros24 258)) w.heap.size 0 dk).drewN k = W2 at hcells hnx2 ⊢
  have hk2 := Kept.ofBelow hnx2
  have HS2 := hid (HS.out.kept hk2 (by simp))
  have HK2 := hid hk2
  have hsz2 := hk2.size
  have HSRC : Hid (Src Tryz.prog 1 40 (.slice (some ⟨w.heap.size, 0, none⟩) (Lib.nDigits u) 24) (Lib.decDigits u).length ((List.range (Lib.decDigits u).length).map (bytesF (Lib.decDigits u))) W2) := by
    have := Src.ofSlice (P := Tryz.prog) (w := W2) (size := 1) Tryz.underlying40 ⟨w.heap.size, 0, none⟩ (Lib.nDigits u) 24 (Lib.byteCells (Lib.decDigits u)) (by rw [Lib.byteCells_length, Lib.decDigits_length, Nat.mul_one]) hcells (fun u' hu' => by
      simp only [Lib.byteCells, List.mem_map] at hu'; obtain ⟨b, _, rfl⟩ := hu'; rfl)
    have e : Lib.byteCells (Lib.decDigits u) = (List.range (Lib.decDigits u).length).map (bytesF (Lib.decDigits u)) := by
      rw [← byteCells_bytesF]
      rfl
    rw [e] at this
    rwa [← Lib.decDigits_length] at this ⊢
  clear eo HH0 hcells hnx2 hk2 HF HN
  have hlen := decDigits_len u hu2
  go_wp2_with (at_builtin; refine wpList_append_bs _ rfl (.tmp 24) (.tmp 26) 40 40 rfl 5 i5 (.int .u8 0) Tryz.underlying40 hi5 hz50 hz51 hz52 rfl B _ _ l (Lib.decDigits u) rfl HS2.out rfl HSRC.out (by omega) (by omega) ?_)
  intro v3 w3 hv3 hk3 ho3
  have HV3 := hid hv3
  have HK3 := hid (HK2.out.trans hk3 (ds := v.ownBlock.toList) (by simp) (fun y hy => .inl hy))
  have HO3 : Hid (∀ k, v3.ownBlock = some k → v.ownBlock = some k ∨ w.heap.size ≤ k) := fun k hk => by
    rcases ho3.out k hk with h | h
    · exact .inl h
    · right; omega
  clear hv3 hk3 ho3
  go_wp2
  go_ret
  exact ⟨v3, rfl, HV3.out, HK3.out, HO3.out⟩

theorem appendUint_any (B u : Nat) (v : Value) (l : List UInt8) (w : World) (hu2 : u ≤ 200) (hs : BS B w v l) (hB : B ≤ w.heap.size) (hm : l.length ≤ 10000)
    (htab : Lib.TabIs Tryz.prog w "internal/strconv.uint64pow10" .u64 Lib.pow10Tab) :
    Calls Tryz.prog 129 #[v, .int .u64 u, .int .i64 10] w (AddL B w v l (Lib.decDigits u)) := by
  by_cases h : u < 100
  · exact appendUint_small B u v l w h hs hB hm
  · exact appendUint_big B u v l w (by omega) hu2 hs hB hm htab

theorem appendInt_in (B u : Nat) (v : Value) (l : List UInt8) (w : World) (hu2 : u ≤ 200) (hs : BS B w v l) (hB : B ≤ w.heap.size) (hm : l.length ≤ 10000)
    (htab : Lib.TabIs Tryz.prog w "internal/strconv.uint64pow10" .u64 Lib.pow10Tab) :
    Calls Tryz.prog 76 #[v, .int .i64 u, .int .i64 10] w (AddL B w v l (Lib.decDigits u)) := by
  have H := hid (appendUint_any B u v l w hu2 hs hB hm htab)
  clear hs htab
  go_enter Tryz.func76, Tryz.ntmps76
  go_wp2_with fail
  refine (H.out).mono ?_
  rintro e w1 ⟨v1, rfl, h1, h2, h3⟩
  have H1 := hid h1
  have H3 := hid h3
  clear h1 h3
  go_wp2
  go_ret
  exact ⟨v1, rfl, H1.out, h2, H3.out⟩

theorem appendInt_any (B u : Nat) (v : Value) (l : List UInt8) (w : World) (hu2 : u ≤ 200) (hs : BS B w v l) (hB : B ≤ w.heap.size) (hm : l.length ≤ 10000)
    (htab : Lib.TabIs Tryz.prog w "internal/strconv.uint64pow10" .u64 Lib.pow10Tab) :
    Calls Tryz.prog 56 #[v, .int .i64 u, .int .i64 10] w (AddL B w v l (Lib.decDigits u)) := by
  have H := hid (appendInt_in B u v l w hu2 hs hB hm htab)
  clear hs htab
  go_enter Tryz.func56, Tryz.ntmps56
  go_wp2_with fail
  refine (H.out).mono ?_
  rintro e w1 ⟨v1, rfl, h1, h2, h3⟩
  have H1 := hid h1
  have H3 := hid h3
  clear h1 h3
  go_wp2
  go_ret
  exact ⟨v1, rfl, H1.out, h2, H3.out⟩
end

section
open Go.RowKit

/-- An appending of one byte. -/
theorem hold_one {w w1 w2 : World} {v v1 v2 : Value} {b : Int} (k1 : Kept v.ownBlock.toList w w1) (o1 : ∀ k, v1.ownBlock = some k → v.ownBlock = some k ∨ w.heap.size ≤ k)
    (k2 : Kept v1.ownBlock.toList (w1.alloc (.cells #[.int .u8 b] 5)) w2) (o2 : ∀ k, v2.ownBlock = some k → v1.ownBlock = some k ∨ w1.heap.size + 1 ≤ k) :
    Kept v.ownBlock.toList w w2 ∧ ∀ k, v2.ownBlock = some k → v.ownBlock = some k ∨ w.heap.size ≤ k :=
  AddL.next k1 o1 (((Kept.refl v1.ownBlock.toList w1).alloc (.cells #[.int .u8 b] 5)).trans k2 (fun y hy => .inl hy) (fun y hy => .inl hy)) fun k hk => by
    rcases o2 k hk with h | h
    · exact .inl h
    · right; omega

set_option maxHeartbeats 8000000 in
theorem fmtE_oneP (b : Nat) (cur : Array Value) (t : TypeId) (B B2 an : Nat) (ex a : Int) (v d : Value) (l r : List UInt8) (c : UInt8) (w : World)
    (hb : w.heap[b]? = some (.cells cur t (0, 0))) (c2 : cur[2]? = some (.int .i32 ex)) (hex : -200 ≤ ex ∧ ex ≤ 200) (hea : ex + ((c :: r).length : Nat) - 1 = a) (ha : ¬ a < 0) (han : an = a.natAbs) (hal : -200 ≤ a ∧ a ≤ 200) (hr : r = []) (hrl : r.length ≤ 100)
    (hs : BS B w v l) (hd : BS B2 w d (c :: r)) (hvd : v.ownBlock = none ∨ v.ownBlock ≠ d.ownBlock) (hB : B ≤ w.heap.size) (hm : l.length ≤ 1000)
    (htab : ∀ w', (∀ k, k < 20 → w'.heap[k]? = w.heap[k]?) → Lib.TabIs Tryz.prog w' "internal/strconv.uint64pow10" .u64 Lib.pow10Tab) (hv20 : ∀ k, v.ownBlock = some k → 20 ≤ k) (hw20 : 20 ≤ w.heap.size) :
    Calls Tryz.prog 42 #[v, .int .u8 69, .pointer (some ⟨b, 0, none⟩), d] w (AddL B w v l (c :: (dotL false r ++ exL 69 (some a)))) := by
  obtain ⟨i5, hi5, hz50, hz51, hz52⟩ := info_parts Tryz.info5
  have d2 : w.cell? ⟨b, 2, none⟩ = some (.int .i32 ex) := (cell_of_heap hb 2).trans c2
  have HS := hid hs
  obtain ⟨g, cc, t', rfl, hg1, hg2, hg3, hR⟩ := hd.row (by simp)
  have hc0 : w.cell? ⟨g, 0, none⟩ = some (.int .u8 (c.toNat : Nat)) := hR.cell (j := 0) (by simp)
  have hgl := hR.lt
  have HVG : Hid (v.ownBlock ≠ some g) := by
    rcases hvd with h | h
    · intro h2; rw [h] at h2; cases h2
    · exact h
  obtain ⟨cz, hcz⟩ : ∃ cz : Nat, cz = c.toNat := ⟨_, rfl⟩
  rw [← hcz] at hc0
  have HCZ := hid hcz
  have HT := hid htab
  have HV20 := hid hv20
  have HR := hid hR
  have HAN := hid han
  obtain ⟨D, hD⟩ : ∃ D, D = (c :: r).length := ⟨_, rfl⟩
  rw [← hD] at hea hg2
  have hD1 : D = 1 := by rw [hD]; rw [hr]; rfl
  have hDl : D ≤ 101 := by rw [hD]; simp; omega
  subst hD1
  obtain rfl : ex = a := by omega
  rw [← hD]
  have HDE := hid hD
  subst hr
  clear hb c2 hs hd hR htab hv20 hcz hvd hD 
  have hna : ex = (an : Int) := by omega
  have HIF : Hid ((if ex < 0 then (45 : UInt8) else 43) = 43) := if_neg ha
  clear han
  go_enter Tryz.func42, Tryz.ntmps42
  go_wp2_with (at_builtin; refine wpList_append_bs _ rfl (.tmp 20) (.tmp 24) 40 40 rfl 5 i5 (.int .u8 0) Tryz.underlying40 hi5 hz50 hz51 hz52 rfl B _ _ l [c] rfl (HS.out.alloc _) rfl (Src.oneB _ 40 5 5 c cz (by rw [HCZ.out]) Tryz.underlying40) (by simp; omega) (by simp; omega) ?_)
  · intro v1 w1 hv1 hk1 ho1
    have HV1 := hid hv1
    have HA1 := hid (hold_one (Kept.refl v.ownBlock.toList w) (fun k hk => .inl hk) hk1 ho1.out)
    have hsz1 := hk1.size
    simp only [World.size_alloc] at hsz1
    clear hv1 hk1 ho1
    have HVA := HV1
    have HAA := HA1
    go_wp2_with (at_builtin; refine wpList_append_bs _ rfl (.tmp 36) (.tmp 38) 40 40 rfl 5 i5 (.int .u8 0) Tryz.underlying40 hi5 hz50 hz51 hz52 rfl B _ _ _ [69] rfl (HVA.out.alloc _) rfl (Src.oneB _ 40 5 5 69 69 rfl Tryz.underlying40) (by simp; omega) (by simp; omega) ?_)
    intro v2 w2 hv2 hk2 ho2
    have HV2 := hid hv2
    have HA2 := hid (hold_one HAA.out.1 HAA.out.2 hk2 ho2.out)
    have hsz2 := hk2.size
    simp only [World.size_alloc] at hsz2
    clear hv2 hk2 ho2
    go_wp2_with (at_builtin; refine wpList_append_bs _ rfl (.tmp 44) (.tmp 46) 40 40 rfl 5 i5 (.int .u8 0) Tryz.underlying40 hi5 hz50 hz51 hz52 rfl B _ _ _ [43] rfl (HV2.out.alloc _) rfl (Src.oneB _ 40 5 5 43 43 rfl Tryz.underlying40) (by simp; omega) (by simp; omega) ?_)
    intro v3 w3 hv3 hk3 ho3
    have HV3 := hid hv3
    have HA3 := hid (hold_one HA2.out.1 HA2.out.2 hk3 ho3.out)
    have hsz3 := hk3.size
    simp only [World.size_alloc] at hsz3
    clear hv3 hk3 ho3
    go_wp2_with fail
    refine (appendInt_any B an v3 _ w3 (by omega) HV3.out (by omega) (by simp; omega) (HT.out w3 fun k hk => HA3.out.1.block k (by omega) (fun hm => by have := HV20.out k (by simpa using hm); omega))).mono ?_
    rintro e w4 ⟨v4, rfl, hv4, hk4, ho4⟩
    have HV4 := hid hv4
    have HA4 := hid (AddL.next HA3.out.1 HA3.out.2 hk4 ho4)
    clear hv4 hk4 ho4
    go_wp2
    go_ret
    exact ⟨v4, rfl, by simpa [exL, dotL, HIF.out, HAN.out] using HV4.out, HA4.out.1, HA4.out.2⟩

set_option maxHeartbeats 8000000 in
theorem fmtE_oneN (b : Nat) (cur : Array Value) (t : TypeId) (B B2 an : Nat) (ex a : Int) (v d : Value) (l r : List UInt8) (c : UInt8) (w : World)
    (hb : w.heap[b]? = some (.cells cur t (0, 0))) (c2 : cur[2]? = some (.int .i32 ex)) (hex : -200 ≤ ex ∧ ex ≤ 200) (hea : ex + ((c :: r).length : Nat) - 1 = a) (ha : a < 0) (han : an = a.natAbs) (hal : -200 ≤ a ∧ a ≤ 200) (hr : r = []) (hrl : r.length ≤ 100)
    (hs : BS B w v l) (hd : BS B2 w d (c :: r)) (hvd : v.ownBlock = none ∨ v.ownBlock ≠ d.ownBlock) (hB : B ≤ w.heap.size) (hm : l.length ≤ 1000)
    (htab : ∀ w', (∀ k, k < 20 → w'.heap[k]? = w.heap[k]?) → Lib.TabIs Tryz.prog w' "internal/strconv.uint64pow10" .u64 Lib.pow10Tab) (hv20 : ∀ k, v.ownBlock = some k → 20 ≤ k) (hw20 : 20 ≤ w.heap.size) :
    Calls Tryz.prog 42 #[v, .int .u8 69, .pointer (some ⟨b, 0, none⟩), d] w (AddL B w v l (c :: (dotL false r ++ exL 69 (some a)))) := by
  obtain ⟨i5, hi5, hz50, hz51, hz52⟩ := info_parts Tryz.info5
  have d2 : w.cell? ⟨b, 2, none⟩ = some (.int .i32 ex) := (cell_of_heap hb 2).trans c2
  have HS := hid hs
  obtain ⟨g, cc, t', rfl, hg1, hg2, hg3, hR⟩ := hd.row (by simp)
  have hc0 : w.cell? ⟨g, 0, none⟩ = some (.int .u8 (c.toNat : Nat)) := hR.cell (j := 0) (by simp)
  have hgl := hR.lt
  have HVG : Hid (v.ownBlock ≠ some g) := by
    rcases hvd with h | h
    · intro h2; rw [h] at h2; cases h2
    · exact h
  obtain ⟨cz, hcz⟩ : ∃ cz : Nat, cz = c.toNat := ⟨_, rfl⟩
  rw [← hcz] at hc0
  have HCZ := hid hcz
  have HT := hid htab
  have HV20 := hid hv20
  have HR := hid hR
  have HAN := hid han
  obtain ⟨D, hD⟩ : ∃ D, D = (c :: r).length := ⟨_, rfl⟩
  rw [← hD] at hea hg2
  have hD1 : D = 1 := by rw [hD]; rw [hr]; rfl
  have hDl : D ≤ 101 := by rw [hD]; simp; omega
  subst hD1
  obtain rfl : ex = a := by omega
  rw [← hD]
  have HDE := hid hD
  subst hr
  clear hb c2 hs hd hR htab hv20 hcz hvd hD 
  have hna : -ex = (an : Int) := by omega
  have HIF : Hid ((if ex < 0 then (45 : UInt8) else 43) = 45) := if_pos ha
  clear han
  go_enter Tryz.func42, Tryz.ntmps42
  go_wp2_with (at_builtin; refine wpList_append_bs _ rfl (.tmp 20) (.tmp 24) 40 40 rfl 5 i5 (.int .u8 0) Tryz.underlying40 hi5 hz50 hz51 hz52 rfl B _ _ l [c] rfl (HS.out.alloc _) rfl (Src.oneB _ 40 5 5 c cz (by rw [HCZ.out]) Tryz.underlying40) (by simp; omega) (by simp; omega) ?_)
  · intro v1 w1 hv1 hk1 ho1
    have HV1 := hid hv1
    have HA1 := hid (hold_one (Kept.refl v.ownBlock.toList w) (fun k hk => .inl hk) hk1 ho1.out)
    have hsz1 := hk1.size
    simp only [World.size_alloc] at hsz1
    clear hv1 hk1 ho1
    have HVA := HV1
    have HAA := HA1
    go_wp2_with (at_builtin; refine wpList_append_bs _ rfl (.tmp 36) (.tmp 38) 40 40 rfl 5 i5 (.int .u8 0) Tryz.underlying40 hi5 hz50 hz51 hz52 rfl B _ _ _ [69] rfl (HVA.out.alloc _) rfl (Src.oneB _ 40 5 5 69 69 rfl Tryz.underlying40) (by simp; omega) (by simp; omega) ?_)
    intro v2 w2 hv2 hk2 ho2
    have HV2 := hid hv2
    have HA2 := hid (hold_one HAA.out.1 HAA.out.2 hk2 ho2.out)
    have hsz2 := hk2.size
    simp only [World.size_alloc] at hsz2
    clear hv2 hk2 ho2
    go_wp2_with (at_builtin; refine wpList_append_bs _ rfl (.tmp 44) (.tmp 46) 40 40 rfl 5 i5 (.int .u8 0) Tryz.underlying40 hi5 hz50 hz51 hz52 rfl B _ _ _ [45] rfl (HV2.out.alloc _) rfl (Src.oneB _ 40 5 5 45 45 rfl Tryz.underlying40) (by simp; omega) (by simp; omega) ?_)
    intro v3 w3 hv3 hk3 ho3
    have HV3 := hid hv3
    have HA3 := hid (hold_one HA2.out.1 HA2.out.2 hk3 ho3.out)
    have hsz3 := hk3.size
    simp only [World.size_alloc] at hsz3
    clear hv3 hk3 ho3
    go_wp2_with fail
    refine (appendInt_any B an v3 _ w3 (by omega) HV3.out (by omega) (by simp; omega) (HT.out w3 fun k hk => HA3.out.1.block k (by omega) (fun hm => by have := HV20.out k (by simpa using hm); omega))).mono ?_
    rintro e w4 ⟨v4, rfl, hv4, hk4, ho4⟩
    have HV4 := hid hv4
    have HA4 := hid (AddL.next HA3.out.1 HA3.out.2 hk4 ho4)
    clear hv4 hk4 ho4
    go_wp2
    go_ret
    exact ⟨v4, rfl, by simpa [exL, dotL, HIF.out, HAN.out] using HV4.out, HA4.out.1, HA4.out.2⟩

set_option maxHeartbeats 8000000 in
theorem fmtE_moreP (b : Nat) (cur : Array Value) (t : TypeId) (B B2 an : Nat) (ex a : Int) (v d : Value) (l r : List UInt8) (c : UInt8) (w : World)
    (hb : w.heap[b]? = some (.cells cur t (0, 0))) (c2 : cur[2]? = some (.int .i32 ex)) (hex : -200 ≤ ex ∧ ex ≤ 200) (hea : ex + ((c :: r).length : Nat) - 1 = a) (ha : ¬ a < 0) (han : an = a.natAbs) (hal : -200 ≤ a ∧ a ≤ 200) (hr : r ≠ []) (hrl : r.length ≤ 100)
    (hs : BS B w v l) (hd : BS B2 w d (c :: r)) (hvd : v.ownBlock = none ∨ v.ownBlock ≠ d.ownBlock) (hB : B ≤ w.heap.size) (hm : l.length ≤ 1000)
    (htab : ∀ w', (∀ k, k < 20 → w'.heap[k]? = w.heap[k]?) → Lib.TabIs Tryz.prog w' "internal/strconv.uint64pow10" .u64 Lib.pow10Tab) (hv20 : ∀ k, v.ownBlock = some k → 20 ≤ k) (hw20 : 20 ≤ w.heap.size) :
    Calls Tryz.prog 42 #[v, .int .u8 69, .pointer (some ⟨b, 0, none⟩), d] w (AddL B w v l (c :: (dotL true r ++ exL 69 (some a)))) := by
  obtain ⟨i5, hi5, hz50, hz51, hz52⟩ := info_parts Tryz.info5
  have d2 : w.cell? ⟨b, 2, none⟩ = some (.int .i32 ex) := (cell_of_heap hb 2).trans c2
  have HS := hid hs
  obtain ⟨g, cc, t', rfl, hg1, hg2, hg3, hR⟩ := hd.row (by simp)
  have hc0 : w.cell? ⟨g, 0, none⟩ = some (.int .u8 (c.toNat : Nat)) := hR.cell (j := 0) (by simp)
  have hgl := hR.lt
  have HVG : Hid (v.ownBlock ≠ some g) := by
    rcases hvd with h | h
    · intro h2; rw [h] at h2; cases h2
    · exact h
  obtain ⟨cz, hcz⟩ : ∃ cz : Nat, cz = c.toNat := ⟨_, rfl⟩
  rw [← hcz] at hc0
  have HCZ := hid hcz
  have HT := hid htab
  have HV20 := hid hv20
  have HR := hid hR
  have HAN := hid han
  obtain ⟨D, hD⟩ : ∃ D, D = (c :: r).length := ⟨_, rfl⟩
  rw [← hD] at hea hg2
  have hD1 : 1 < D := by rw [hD]; have := List.length_pos_iff.2 hr; simp; omega
  have hDl : D ≤ 101 := by rw [hD]; simp; omega
  have hea' : ex + (D : Int) - 1 = a := hea
  rw [← hD]
  have HDE := hid hD
  
  clear hb c2 hs hd hR htab hv20 hcz hvd hD 
  have hna : a = (an : Int) := by omega
  have HIF : Hid ((if a < 0 then (45 : UInt8) else 43) = 43) := if_neg ha
  clear han
  go_enter Tryz.func42, Tryz.ntmps42
  go_wp2_with (at_builtin; refine wpList_append_bs _ rfl (.tmp 20) (.tmp 24) 40 40 rfl 5 i5 (.int .u8 0) Tryz.underlying40 hi5 hz50 hz51 hz52 rfl B _ _ l [c] rfl (HS.out.alloc _) rfl (Src.oneB _ 40 5 5 c cz (by rw [HCZ.out]) Tryz.underlying40) (by simp; omega) (by simp; omega) ?_)
  · intro v1 w1 hv1 hk1 ho1
    have HV1 := hid hv1
    have HA1 := hid (hold_one (Kept.refl v.ownBlock.toList w) (fun k hk => .inl hk) hk1 ho1.out)
    have hsz1 := hk1.size
    simp only [World.size_alloc] at hsz1
    clear hv1 hk1 ho1
    go_wp2_with (at_builtin; refine wpList_append_bs _ rfl (.tmp 29) (.tmp 30) 40 40 rfl 5 i5 (.int .u8 0) Tryz.underlying40 hi5 hz50 hz51 hz52 rfl B _ _ _ [46] rfl (HV1.out.alloc _) rfl (Src.oneB _ 40 5 5 46 46 rfl Tryz.underlying40) (by simp; omega) (by simp; omega) ?_)
    intro va wa hva hka hoa
    have HVA0 := hid hva
    have HAA0 := hid (hold_one HA1.out.1 HA1.out.2 hka hoa.out)
    have hsza := hka.size
    simp only [World.size_alloc] at hsza
    have HRA := hid (HR.out.kept HAA0.out.1 (by simpa using HVG.out))
    have hs3 := hid (HRA.out.srcB (P := Tryz.prog) 40 5 Tryz.underlying40 1 (D - 1) (cc - 1) (by have := HDE.out; omega))
    have hall : ((c :: r).drop 1).take (D - 1) = r := by
      rw [List.drop_one, List.tail_cons]
      exact List.take_of_length_le (by have := HDE.out; simp at this; omega)
    rw [hall] at hs3
    clear hva hka hoa
    go_wp2_with (at_builtin; refine wpList_append_bs _ rfl (.tmp 32) (.tmp 34) 40 40 rfl 5 i5 (.int .u8 0) Tryz.underlying40 hi5 hz50 hz51 hz52 rfl B _ _ _ r rfl HVA0.out rfl hs3.out (by simp; omega) (by omega) ?_)
    intro vb wb hvb hkb hob
    have HVA := hid hvb
    have HAA := hid (AddL.next HAA0.out.1 HAA0.out.2 hkb hob.out)
    have hszb := hkb.size
    clear hvb hkb hob
    go_wp2_with (at_builtin; refine wpList_append_bs _ rfl (.tmp 36) (.tmp 38) 40 40 rfl 5 i5 (.int .u8 0) Tryz.underlying40 hi5 hz50 hz51 hz52 rfl B _ _ _ [69] rfl (HVA.out.alloc _) rfl (Src.oneB _ 40 5 5 69 69 rfl Tryz.underlying40) (by simp; omega) (by simp; omega) ?_)
    intro v2 w2 hv2 hk2 ho2
    have HV2 := hid hv2
    have HA2 := hid (hold_one HAA.out.1 HAA.out.2 hk2 ho2.out)
    have hsz2 := hk2.size
    simp only [World.size_alloc] at hsz2
    clear hv2 hk2 ho2
    go_wp2_with (at_builtin; refine wpList_append_bs _ rfl (.tmp 44) (.tmp 46) 40 40 rfl 5 i5 (.int .u8 0) Tryz.underlying40 hi5 hz50 hz51 hz52 rfl B _ _ _ [43] rfl (HV2.out.alloc _) rfl (Src.oneB _ 40 5 5 43 43 rfl Tryz.underlying40) (by simp; omega) (by simp; omega) ?_)
    intro v3 w3 hv3 hk3 ho3
    have HV3 := hid hv3
    have HA3 := hid (hold_one HA2.out.1 HA2.out.2 hk3 ho3.out)
    have hsz3 := hk3.size
    simp only [World.size_alloc] at hsz3
    clear hv3 hk3 ho3
    go_wp2_with fail
    refine (appendInt_any B an v3 _ w3 (by omega) HV3.out (by omega) (by simp; omega) (HT.out w3 fun k hk => HA3.out.1.block k (by omega) (fun hm => by have := HV20.out k (by simpa using hm); omega))).mono ?_
    rintro e w4 ⟨v4, rfl, hv4, hk4, ho4⟩
    have HV4 := hid hv4
    have HA4 := hid (AddL.next HA3.out.1 HA3.out.2 hk4 ho4)
    clear hv4 hk4 ho4
    go_wp2
    go_ret
    exact ⟨v4, rfl, by simpa [exL, dotL, HIF.out, HAN.out] using HV4.out, HA4.out.1, HA4.out.2⟩

set_option maxHeartbeats 8000000 in
theorem fmtE_moreN (b : Nat) (cur : Array Value) (t : TypeId) (B B2 an : Nat) (ex a : Int) (v d : Value) (l r : List UInt8) (c : UInt8) (w : World)
    (hb : w.heap[b]? = some (.cells cur t (0, 0))) (c2 : cur[2]? = some (.int .i32 ex)) (hex : -200 ≤ ex ∧ ex ≤ 200) (hea : ex + ((c :: r).length : Nat) - 1 = a) (ha : a < 0) (han : an = a.natAbs) (hal : -200 ≤ a ∧ a ≤ 200) (hr : r ≠ []) (hrl : r.length ≤ 100)
    (hs : BS B w v l) (hd : BS B2 w d (c :: r)) (hvd : v.ownBlock = none ∨ v.ownBlock ≠ d.ownBlock) (hB : B ≤ w.heap.size) (hm : l.length ≤ 1000)
    (htab : ∀ w', (∀ k, k < 20 → w'.heap[k]? = w.heap[k]?) → Lib.TabIs Tryz.prog w' "internal/strconv.uint64pow10" .u64 Lib.pow10Tab) (hv20 : ∀ k, v.ownBlock = some k → 20 ≤ k) (hw20 : 20 ≤ w.heap.size) :
    Calls Tryz.prog 42 #[v, .int .u8 69, .pointer (some ⟨b, 0, none⟩), d] w (AddL B w v l (c :: (dotL true r ++ exL 69 (some a)))) := by
  obtain ⟨i5, hi5, hz50, hz51, hz52⟩ := info_parts Tryz.info5
  have d2 : w.cell? ⟨b, 2, none⟩ = some (.int .i32 ex) := (cell_of_heap hb 2).trans c2
  have HS := hid hs
  obtain ⟨g, cc, t', rfl, hg1, hg2, hg3, hR⟩ := hd.row (by simp)
  have hc0 : w.cell? ⟨g, 0, none⟩ = some (.int .u8 (c.toNat : Nat)) := hR.cell (j := 0) (by simp)
  have hgl := hR.lt
  have HVG : Hid (v.ownBlock ≠ some g) := by
    rcases hvd with h | h
    · intro h2; rw [h] at h2; cases h2
    · exact h
  obtain ⟨cz, hcz⟩ : ∃ cz : Nat, cz = c.toNat := ⟨_, rfl⟩
  rw [← hcz] at hc0
  have HCZ := hid hcz
  have HT := hid htab
  have HV20 := hid hv20
  have HR := hid hR
  have HAN := hid han
  obtain ⟨D, hD⟩ : ∃ D, D = (c :: r).length := ⟨_, rfl⟩
  rw [← hD] at hea hg2
  have hD1 : 1 < D := by rw [hD]; have := List.length_pos_iff.2 hr; simp; omega
  have hDl : D ≤ 101 := by rw [hD]; simp; omega
  have hea' : ex + (D : Int) - 1 = a := hea
  rw [← hD]
  have HDE := hid hD
  
  clear hb c2 hs hd hR htab hv20 hcz hvd hD 
  have hna : -a = (an : Int) := by omega
  have HIF : Hid ((if a < 0 then (45 : UInt8) else 43) = 45) := if_pos ha
  clear han
  go_enter Tryz.func42, Tryz.ntmps42
  go_wp2_with (at_builtin; refine wpList_append_bs _ rfl (.tmp 20) (.tmp 24) 40 40 rfl 5 i5 (.int .u8 0) Tryz.underlying40 hi5 hz50 hz51 hz52 rfl B _ _ l [c] rfl (HS.out.alloc _) rfl (Src.oneB _ 40 5 5 c cz (by rw [HCZ.out]) Tryz.underlying40) (by simp; omega) (by simp; omega) ?_)
  · intro v1 w1 hv1 hk1 ho1
    have HV1 := hid hv1
    have HA1 := hid (hold_one (Kept.refl v.ownBlock.toList w) (fun k hk => .inl hk) hk1 ho1.out)
    have hsz1 := hk1.size
    simp only [World.size_alloc] at hsz1
    clear hv1 hk1 ho1
    go_wp2_with (at_builtin; refine wpList_append_bs _ rfl (.tmp 29) (.tmp 30) 40 40 rfl 5 i5 (.int .u8 0) Tryz.underlying40 hi5 hz50 hz51 hz52 rfl B _ _ _ [46] rfl (HV1.out.alloc _) rfl (Src.oneB _ 40 5 5 46 46 rfl Tryz.underlying40) (by simp; omega) (by simp; omega) ?_)
    intro va wa hva hka hoa
    have HVA0 := hid hva
    have HAA0 := hid (hold_one HA1.out.1 HA1.out.2 hka hoa.out)
    have hsza := hka.size
    simp only [World.size_alloc] at hsza
    have HRA := hid (HR.out.kept HAA0.out.1 (by simpa using HVG.out))
    have hs3 := hid (HRA.out.srcB (P := Tryz.prog) 40 5 Tryz.underlying40 1 (D - 1) (cc - 1) (by have := HDE.out; omega))
    have hall : ((c :: r).drop 1).take (D - 1) = r := by
      rw [List.drop_one, List.tail_cons]
      exact List.take_of_length_le (by have := HDE.out; simp at this; omega)
    rw [hall] at hs3
    clear hva hka hoa
    go_wp2_with (at_builtin; refine wpList_append_bs _ rfl (.tmp 32) (.tmp 34) 40 40 rfl 5 i5 (.int .u8 0) Tryz.underlying40 hi5 hz50 hz51 hz52 rfl B _ _ _ r rfl HVA0.out rfl hs3.out (by simp; omega) (by omega) ?_)
    intro vb wb hvb hkb hob
    have HVA := hid hvb
    have HAA := hid (AddL.next HAA0.out.1 HAA0.out.2 hkb hob.out)
    have hszb := hkb.size
    clear hvb hkb hob
    go_wp2_with (at_builtin; refine wpList_append_bs _ rfl (.tmp 36) (.tmp 38) 40 40 rfl 5 i5 (.int .u8 0) Tryz.underlying40 hi5 hz50 hz51 hz52 rfl B _ _ _ [69] rfl (HVA.out.alloc _) rfl (Src.oneB _ 40 5 5 69 69 rfl Tryz.underlying40) (by simp; omega) (by simp; omega) ?_)
    intro v2 w2 hv2 hk2 ho2
    have HV2 := hid hv2
    have HA2 := hid (hold_one HAA.out.1 HAA.out.2 hk2 ho2.out)
    have hsz2 := hk2.size
    simp only [World.size_alloc] at hsz2
    clear hv2 hk2 ho2
    go_wp2_with (at_builtin; refine wpList_append_bs _ rfl (.tmp 44) (.tmp 46) 40 40 rfl 5 i5 (.int .u8 0) Tryz.underlying40 hi5 hz50 hz51 hz52 rfl B _ _ _ [45] rfl (HV2.out.alloc _) rfl (Src.oneB _ 40 5 5 45 45 rfl Tryz.underlying40) (by simp; omega) (by simp; omega) ?_)
    intro v3 w3 hv3 hk3 ho3
    have HV3 := hid hv3
    have HA3 := hid (hold_one HA2.out.1 HA2.out.2 hk3 ho3.out)
    have hsz3 := hk3.size
    simp only [World.size_alloc] at hsz3
    clear hv3 hk3 ho3
    go_wp2_with fail
    refine (appendInt_any B an v3 _ w3 (by omega) HV3.out (by omega) (by simp; omega) (HT.out w3 fun k hk => HA3.out.1.block k (by omega) (fun hm => by have := HV20.out k (by simpa using hm); omega))).mono ?_
    rintro e w4 ⟨v4, rfl, hv4, hk4, ho4⟩
    have HV4 := hid hv4
    have HA4 := hid (AddL.next HA3.out.1 HA3.out.2 hk4 ho4)
    clear hv4 hk4 ho4
    go_wp2
    go_ret
    exact ⟨v4, rfl, by simpa [exL, dotL, HIF.out, HAN.out] using HV4.out, HA4.out.1, HA4.out.2⟩
end

section
open Go.RowKit

/-- What fmtF writes at an exponent not above 0. -/
def fList (ds : List UInt8) (ex : Int) : List UInt8 :=
  if ex = 0 then ds else if ds.length ≤ ex.natAbs then 48 :: 46 :: (List.replicate (ex.natAbs - ds.length) 48 ++ ds) else ds.take (ds.length - ex.natAbs) ++ 46 :: ds.drop (ds.length - ex.natAbs)
/-- What fmtE writes. -/
def eList (ds : List UInt8) (ex : Int) : List UInt8 :=
  ds.take 1 ++ (dotL (decide (ds.length ≠ 1)) (ds.drop 1) ++ exL 69 (some (ex + ds.length - 1)))

theorem fmtF_any (b : Nat) (cur : Array Value) (t : TypeId) (B B2 : Nat) (ex : Int) (v d : Value) (l ds : List UInt8) (w : World)
    (hb : w.heap[b]? = some (.cells cur t (0, 0))) (c2 : cur[2]? = some (.int .i32 ex)) (hex : -200 ≤ ex ∧ ex ≤ 0) (hD0 : 1 ≤ ds.length) (hD : ds.length ≤ 100) (hvb : v.ownBlock ≠ some b)
    (hs : BS B w v l) (hd : BS B2 w d ds) (hvd : v.ownBlock = none ∨ v.ownBlock ≠ d.ownBlock) (hB : B ≤ w.heap.size) (hm : l.length ≤ 1000) :
    Calls Tryz.prog 43 #[v, .pointer (some ⟨b, 0, none⟩), d] w (AddL B w v l (fList ds ex)) := by
  unfold fList
  split
  · rename_i h
    subst h
    exact fmtF_nil b cur t B B2 v d l ds w hb c2 hvb hs hd hB hm (by omega)
  · split
    · refine fmtF_left b cur t B B2 (ex.natAbs - ds.length) v d l ds w hb ?_ hD0 hs hd hvd hB hm (by omega) (by omega)
      rw [c2]
      congr 2
      omega
    · refine fmtF_mid b cur t B B2 ex.natAbs v d l ds w hb ?_ (by omega) (by omega) hs hd hvd hB hm (by omega)
      rw [c2]
      congr 2
      omega

theorem fmtE_any (b : Nat) (cur : Array Value) (t : TypeId) (B B2 : Nat) (ex : Int) (v d : Value) (l ds : List UInt8) (w : World)
    (hb : w.heap[b]? = some (.cells cur t (0, 0))) (c2 : cur[2]? = some (.int .i32 ex)) (hex : -100 ≤ ex ∧ ex ≤ 100) (hD0 : 1 ≤ ds.length) (hD : ds.length ≤ 60)
    (hs : BS B w v l) (hd : BS B2 w d ds) (hvd : v.ownBlock = none ∨ v.ownBlock ≠ d.ownBlock) (hB : B ≤ w.heap.size) (hm : l.length ≤ 1000)
    (htab : ∀ w', (∀ k, k < 20 → w'.heap[k]? = w.heap[k]?) → Lib.TabIs Tryz.prog w' "internal/strconv.uint64pow10" .u64 Lib.pow10Tab) (hv20 : ∀ k, v.ownBlock = some k → 20 ≤ k) (hw20 : 20 ≤ w.heap.size) :
    Calls Tryz.prog 42 #[v, .int .u8 69, .pointer (some ⟨b, 0, none⟩), d] w (AddL B w v l (eList ds ex)) := by
  obtain ⟨c, r, rfl⟩ : ∃ c r, ds = c :: r := by
    cases ds with
    | nil => simp at hD0
    | cons c r => exact ⟨c, r, rfl⟩
  have hlen : (c :: r).length = r.length + 1 := rfl
  rw [hlen] at hD hD0
  have e1 : eList (c :: r) ex = c :: (dotL (decide ((c :: r).length ≠ 1)) r ++ exL 69 (some (ex + ((c :: r).length : Nat) - 1))) := rfl
  rw [e1]
  by_cases hr : r = []
  · have e2 : decide ((c :: r).length ≠ 1) = false := by rw [hr]; rfl
    rw [e2]
    have hr0 : r.length = 0 := by rw [hr]; rfl
    by_cases ha : ex + ((c :: r).length : Nat) - 1 < 0
    · exact fmtE_oneN b cur t B B2 _ ex _ v d l r c w hb c2 (by omega) rfl ha rfl (by rw [hlen]; omega) hr (by omega) hs hd hvd hB hm htab hv20 hw20
    · exact fmtE_oneP b cur t B B2 _ ex _ v d l r c w hb c2 (by omega) rfl ha rfl (by rw [hlen]; omega) hr (by omega) hs hd hvd hB hm htab hv20 hw20
  · have hr0 := List.length_pos_iff.2 hr
    have e2 : decide ((c :: r).length ≠ 1) = true := by rw [hlen]; simp; omega
    rw [e2]
    by_cases ha : ex + ((c :: r).length : Nat) - 1 < 0
    · exact fmtE_moreN b cur t B B2 _ ex _ v d l r c w hb c2 (by omega) rfl ha rfl (by rw [hlen]; omega) hr (by omega) hs hd hvd hB hm htab hv20 hw20
    · exact fmtE_moreP b cur t B B2 _ ex _ v d l r c w hb c2 (by omega) rfl ha rfl (by rw [hlen]; omega) hr (by omega) hs hd hvd hB hm htab hv20 hw20

/-- The test between the two forms. -/
def gTest (V D : Nat) (ex : Int) : Prop := ex ≤ 0 ∧ -6 ≤ ex + (if V = 0 ∧ ex < 0 then (D : Int) - ex else D) - 1

theorem decShape_f (V D : Nat) (ex : Int) (h : gTest V D ex) : (decShape V D ex).list 69 = fList (digL V D) ex := by
  unfold gTest at h
  unfold decShape fList
  rw [digL_length]
  dsimp only
  rw [if_pos h]
  split
  · simp [Shape.list, dotL, exL]
  · split
    · simp [Shape.list, dotL, exL]
    · simp [Shape.list, dotL, exL]

theorem decShape_e (V D : Nat) (ex : Int) (h : ¬ gTest V D ex) (hD : 1 ≤ D) : (decShape V D ex).list 69 = eList (digL V D) ex := by
  unfold gTest at h
  unfold decShape eList
  rw [digL_length]
  dsimp only
  rw [if_neg h]
  split
  · rename_i h1
    subst h1
    have e1 : (digL V 1).take 1 = digL V 1 := List.take_of_length_le (by rw [digL_length]; omega)
    have e2 : (digL V 1).drop 1 = [] := List.drop_eq_nil_of_le (by rw [digL_length]; omega)
    simp [Shape.list, dotL, e1]
  · rename_i h1
    simp [Shape.list, dotL, h1]
end

end Go.Proofs.YtofmickjbpkgbaaGreatDoor
